import JvmDerived
import JvmDerived.Pilot.@@N@@Statement
import JvmDerived.Pilot.@@N@@Code
set_option linter.unusedVariables false
set_option linter.unusedSimpArgs false
namespace Jvm.RoadKit
open Sem ClassFile Op Lib Jvm.Stand Jvm.Free Jvm.LawKit
section Own
abbrev EL0 : List (String × Nat) := [("java/lang/String", 7)]
variable {p : Program} {l : Launch} {e : Env} {R : Room} {s : State} {m : MethodId} {args : Array Value} {below : List Frame} {meth : Method} {c : Code} {Z : State} {a0 : Array Value}
/-- what a body's walk stands on -/
def OC (p : Program) (s : State) (m : MethodId) (meth : Method) (c : Code) (Z : State) (own nm : String) (bytes : ByteArray) (ml : Nat) (ret : Option FieldType) : Prop :=
  p.tables.exec = Jvm.exec ∧ c.code = bytes ∧ Z.Warmed39 s.vm ∧ s.vm.findClass own = some m.cls ∧ c.maxLocals = ml ∧ meth.sig.returnType = ret ∧ meth.locks = false ∧ meth.name = nm ∧ ∃ a1, EW Z a1 EL0
/-- where the walk stands: the heap, what has been made, what has been written -/
def OS (p : Program) (l : Launch) (e : Env) (R : Room) (s : State) (m : MethodId) (args : Array Value) (below : List Frame) (meth : Method) (c : Code) (Z : State) (SA : List Addr) (n0 : Nat) (h : Heap) (cl sl : Nat) (T : State) (locs : List Loc) : Prop :=
  ∃ vm0 k0, Stand p l e R (s.setVm vm0) m args below meth c T locs cl sl ∧ Fr n0 locs ∧ T.heap = h ∧ cl ≤ R.cells ∧ sl ≤ R.slots ∧ s.Since vm0 k0 ∧ k0 ≤ h.size ∧ CHr Z EL0 s.vm s.heap vm0 h ∧ ∀ x ∈ SA, Safe Z EL0 vm0 h x ∧ x < h.size
/-- a run that leaves the heap as it is: from the frame g to the frame g' -/
def OG (p : Program) (l : Launch) (e : Env) (R : Room) (s : State) (m : MethodId) (args : Array Value) (below : List Frame) (meth : Method) (c : Code) (Z : State) (SA : List Addr) (n0 : Nat) (h : Heap) (g g' : JFrame) : Prop :=
  ∀ T locs cl sl, OS p l e R s m args below meth c Z SA n0 h cl sl T locs →
    ∃ T' locs', OS p l e R s m args below meth c Z SA n0 h cl sl T' locs' ∧ ∀ target, Steps p.tables e below (T'.setTop g') target → Steps p.tables e below (T.setTop g) target
/-- what is left to run from the frame g: it returns, and Q holds of what it returns and of the heap -/
def OW (p : Program) (l : Launch) (e : Env) (R : Room) (s : State) (m : MethodId) (args : Array Value) (below : List Frame) (meth : Method) (c : Code) (Z : State) (SA : List Addr) (n0 : Nat) (Q : Option Value → Heap → Prop) (K N : Nat) (h : Heap) (cl sl : Nat) (g : JFrame) : Prop :=
  ∀ T locs, OS p l e R s m args below meth c Z SA n0 h cl sl T locs →
    ∃ s₂ o, Steps p.tables e below (T.setTop g) s₂ ∧ s₂.status = .running ∧ Ended s₂ below o ∧ ∃ v L, o = .returned v ∧ (Q v s₂.heap ∧ Fr n0 L) ∧ CHr Z EL0 s.vm s.heap s₂.vm s₂.heap ∧ ReturnedEndW s o s₂ L K N
variable {SA SA' : List Addr} {own nm : String} {bytes : ByteArray} {ml n0 K N : Nat} {ret : Option FieldType} {Q : Option Value → Heap → Prop} {h : Heap} {cl sl : Nat} {g g' g'' : JFrame} {pc pc' : Nat} {ls ls' : Array Slot} {st : List Value}
theorem OG.refl : OG p l e R s m args below meth c Z SA n0 h g g := fun T locs _ _ X => ⟨T, locs, X, fun _ k => k⟩
theorem OG.trans (A : OG p l e R s m args below meth c Z SA n0 h g g') (B : OG p l e R s m args below meth c Z SA n0 h g' g'') : OG p l e R s m args below meth c Z SA n0 h g g'' := fun T locs cl sl X => by
  obtain ⟨T1, L1, X1, k1⟩ := A T locs cl sl X
  obtain ⟨T2, L2, X2, k2⟩ := B T1 L1 cl sl X1
  exact ⟨T2, L2, X2, fun t k => k1 t (k2 t k)⟩
theorem OG.ow (A : OG p l e R s m args below meth c Z SA n0 h g g') (B : OW p l e R s m args below meth c Z SA n0 Q K N h cl sl g') : OW p l e R s m args below meth c Z SA n0 Q K N h cl sl g := fun T locs X => by
  obtain ⟨T1, L1, X1, k1⟩ := A T locs cl sl X
  obtain ⟨s₂, o, q, r⟩ := B T1 L1 X1
  exact ⟨s₂, o, k1 _ q, r⟩
theorem OG.cast (A : OG p l e R s m args below meth c Z SA n0 h g g') (q : g' = g'') : OG p l e R s m args below meth c Z SA n0 h g g'' := q ▸ A
theorem OW.cast (q : g = g') (A : OW p l e R s m args below meth c Z SA n0 Q K N h cl sl g') : OW p l e R s m args below meth c Z SA n0 Q K N h cl sl g := q ▸ A
theorem OW.more {cl' sl' : Nat} (A : OW p l e R s m args below meth c Z SA n0 Q K N h cl' sl' g) (q1 : cl ≤ cl') (q2 : sl ≤ sl') (q3 : cl' ≤ R.cells) (q4 : sl' ≤ R.slots) (q5 : ∀ x ∈ SA, x ∈ SA') : OW p l e R s m args below meth c Z SA' n0 Q K N h cl sl g := fun T locs ⟨vm0, k0, X, r1, r2, _, _, r3, r4, r5, r6⟩ => A T locs ⟨vm0, k0, X.more q1 q2, r1, r2, q3, q4, r3, r4, r5, fun x q => r6 x (q5 x q)⟩
/-- the two arms of a branch meet -/
theorem OG.ite {α : Type} {P : Prop} [Decidable P] {f : α → JFrame} {x y : α} (A : P → OG p l e R s m args below meth c Z SA n0 h g (f x)) (B : ¬ P → OG p l e R s m args below meth c Z SA n0 h g (f y)) : OG p l e R s m args below meth c Z SA n0 h g (f (if P then x else y)) := by
  by_cases q : P
  · rw [if_pos q]; exact A q
  · rw [if_neg q]; exact B q
theorem OG.of (k : ∀ (s' : State) T locs cl sl, Stand p l e R s' m args below meth c T locs cl sl → ∀ target, Steps p.tables e below (T.setTop g') target → Steps p.tables e below (T.setTop g) target) : OG p l e R s m args below meth c Z SA n0 h g g' :=
  fun T locs _ _ X => ⟨T, locs, X, by obtain ⟨vm0, k0, X, -⟩ := X; exact k _ T locs _ _ X⟩
theorem OC.d (C : OC p s m meth c Z own nm bytes ml ret) {r : Except DecodeError (Instr × Nat)} (q : decode bytes pc = r) : decode c.code pc = r := by rw [C.2.1]; exact q
theorem own_fr {x z : Int32} (q : x = z) : mkF m pc ls (.int x :: st) = mkF m pc ls (.int z :: st) := by rw [q]
theorem OG.ite0 {P : Prop} [Decidable P] (A : P → OG p l e R s m args below meth c Z SA n0 h g g') (B : ¬ P → OG p l e R s m args below meth c Z SA n0 h g g') : OG p l e R s m args below meth c Z SA n0 h g g' := by
  by_cases q : P
  · exact A q
  · exact B q
theorem OG.ite2 {α β : Type} {P : Prop} [Decidable P] {f : α → β → JFrame} {x y : α} {x' y' : β} (A : P → OG p l e R s m args below meth c Z SA n0 h g (f x x')) (B : ¬ P → OG p l e R s m args below meth c Z SA n0 h g (f y y')) : OG p l e R s m args below meth c Z SA n0 h g (f (if P then x else y) (if P then x' else y')) := by
  by_cases q : P
  · rw [if_pos q, if_pos q]; exact A q
  · rw [if_neg q, if_neg q]; exact B q
theorem OC.lift {vm0 : Vm} {k0 : Nat} (C : OC p s m meth c Z own nm bytes ml ret) (hS : s.Since vm0 k0) : OC p (s.setVm vm0) m meth c Z own nm bytes ml ret :=
  ⟨C.1, C.2.1, State.Warmed39.trans C.2.2.1 hS.1, by rw [show (s.setVm vm0).vm = vm0 from rfl, hS.1.alike.findClass]; exact C.2.2.2.1, C.2.2.2.2⟩
theorem RW.mono {s t : State} {o : Outcome} {L : List Loc} {k n k' n' : Nat} (q : ReturnedEndW s o t L k n) (h1 : k ≤ k') (h2 : n ≤ n') : ReturnedEndW s o t L k' n' := ⟨q.1, q.2.1, q.2.2.1, q.2.2.2.mono h1 h2⟩
theorem OG.iloadN (C : OC p s m meth c Z own nm bytes ml ret) {k : Fin 4} {v : Int32} (hd : decode bytes pc = .ok (.iload_n k, 1)) (hl : ls[k.val]? = some (.val (.int v))) (hp : pc + 1 = pc') : OG p l e R s m args below meth c Z SA n0 h (mkF m pc ls st) (mkF m pc' ls (.int v :: st)) := by
  subst hp
  exact OG.of fun s' T locs cl sl X target k => XS.iloadN X.here C.1 rfl (C.d hd) hl k
theorem OG.iload (C : OC p s m meth c Z own nm bytes ml ret) {k : Nat} {v : Int32} (hd : decode bytes pc = .ok (.iload k, 2)) (hl : ls[k]? = some (.val (.int v))) (hp : pc + 2 = pc') : OG p l e R s m args below meth c Z SA n0 h (mkF m pc ls st) (mkF m pc' ls (.int v :: st)) := by
  subst hp
  exact OG.of fun s' T locs cl sl X target k => XS.iload X.here C.1 rfl (C.d hd) hl k
theorem OG.lloadN (C : OC p s m meth c Z own nm bytes ml ret) {k : Fin 4} {v : Int64} (hd : decode bytes pc = .ok (.lload_n k, 1)) (hl : ls[k.val]? = some (.val (.long v))) (hp : pc + 1 = pc') : OG p l e R s m args below meth c Z SA n0 h (mkF m pc ls st) (mkF m pc' ls (.long v :: st)) := by
  subst hp
  exact OG.of fun s' T locs cl sl X target k => XS.lloadN X.here C.1 rfl (C.d hd) hl k
theorem OG.lload (C : OC p s m meth c Z own nm bytes ml ret) {k : Nat} {v : Int64} (hd : decode bytes pc = .ok (.lload k, 2)) (hl : ls[k]? = some (.val (.long v))) (hp : pc + 2 = pc') : OG p l e R s m args below meth c Z SA n0 h (mkF m pc ls st) (mkF m pc' ls (.long v :: st)) := by
  subst hp
  exact OG.of fun s' T locs cl sl X target k => XS.lload X.here C.1 rfl (C.d hd) hl k
theorem OG.aloadN (C : OC p s m meth c Z own nm bytes ml ret) {k : Fin 4} {v : Value} (hd : decode bytes pc = .ok (.aload_n k, 1)) (hl : ls[k.val]? = some (.val v)) (hv : v.isRef = true) (hp : pc + 1 = pc') : OG p l e R s m args below meth c Z SA n0 h (mkF m pc ls st) (mkF m pc' ls (v :: st)) := by
  subst hp
  exact OG.of fun s' T locs cl sl X target k => XS.aloadN X.here C.1 rfl (C.d hd) hl hv k
theorem OG.aload (C : OC p s m meth c Z own nm bytes ml ret) {k : Nat} {v : Value} (hd : decode bytes pc = .ok (.aload k, 2)) (hl : ls[k]? = some (.val v)) (hv : v.isRef = true) (hp : pc + 2 = pc') : OG p l e R s m args below meth c Z SA n0 h (mkF m pc ls st) (mkF m pc' ls (v :: st)) := by
  subst hp
  exact OG.of fun s' T locs cl sl X target k => XS.aload X.here C.1 rfl (C.d hd) hl hv k
theorem OG.istoreN (C : OC p s m meth c Z own nm bytes ml ret) {k : Fin 4} {v : Int32} (hd : decode bytes pc = .ok (.istore_n k, 1)) (hl : storeLocals ls k.val (.int v) = some ls') (hp : pc + 1 = pc') : OG p l e R s m args below meth c Z SA n0 h (mkF m pc ls (.int v :: st)) (mkF m pc' ls' st) := by
  subst hp
  exact OG.of fun s' T locs cl sl X target k => XS.istoreN X.here C.1 rfl (C.d hd) rfl hl k
theorem OG.istore (C : OC p s m meth c Z own nm bytes ml ret) {k : Nat} {v : Int32} (hd : decode bytes pc = .ok (.istore k, 2)) (hl : storeLocals ls k (.int v) = some ls') (hp : pc + 2 = pc') : OG p l e R s m args below meth c Z SA n0 h (mkF m pc ls (.int v :: st)) (mkF m pc' ls' st) := by
  subst hp
  exact OG.of fun s' T locs cl sl X target k => XS.istore X.here C.1 rfl (C.d hd) rfl hl k
theorem OG.lstoreN (C : OC p s m meth c Z own nm bytes ml ret) {k : Fin 4} {v : Int64} (hd : decode bytes pc = .ok (.lstore_n k, 1)) (hl : storeLocals ls k.val (.long v) = some ls') (hp : pc + 1 = pc') : OG p l e R s m args below meth c Z SA n0 h (mkF m pc ls (.long v :: st)) (mkF m pc' ls' st) := by
  subst hp
  exact OG.of fun s' T locs cl sl X target k => XS.lstoreN X.here C.1 rfl (C.d hd) rfl hl k
theorem OG.lstore (C : OC p s m meth c Z own nm bytes ml ret) {k : Nat} {v : Int64} (hd : decode bytes pc = .ok (.lstore k, 2)) (hl : storeLocals ls k (.long v) = some ls') (hp : pc + 2 = pc') : OG p l e R s m args below meth c Z SA n0 h (mkF m pc ls (.long v :: st)) (mkF m pc' ls' st) := by
  subst hp
  exact OG.of fun s' T locs cl sl X target k => XS.lstore X.here C.1 rfl (C.d hd) rfl hl k
theorem OG.astoreN (C : OC p s m meth c Z own nm bytes ml ret) {k : Fin 4} {v : Value} (hd : decode bytes pc = .ok (.astore_n k, 1)) (hv : v.isRef = true) (hl : storeLocals ls k.val v = some ls') (hp : pc + 1 = pc') : OG p l e R s m args below meth c Z SA n0 h (mkF m pc ls (v :: st)) (mkF m pc' ls' st) := by
  subst hp
  exact OG.of fun s' T locs cl sl X target k => XS.astoreN X.here C.1 rfl (C.d hd) rfl hv hl k
theorem OG.astore (C : OC p s m meth c Z own nm bytes ml ret) {k : Nat} {v : Value} (hd : decode bytes pc = .ok (.astore k, 2)) (hv : v.isRef = true) (hl : storeLocals ls k v = some ls') (hp : pc + 2 = pc') : OG p l e R s m args below meth c Z SA n0 h (mkF m pc ls (v :: st)) (mkF m pc' ls' st) := by
  subst hp
  exact OG.of fun s' T locs cl sl X target k => XS.astore X.here C.1 rfl (C.d hd) rfl hv hl k
theorem OG.iconst (C : OC p s m meth c Z own nm bytes ml ret) {i : Int} {z : Int32} (hd : decode bytes pc = .ok (.iconst i, 1)) (hz : Int32.ofInt i = z) (hp : pc + 1 = pc') : OG p l e R s m args below meth c Z SA n0 h (mkF m pc ls st) (mkF m pc' ls (.int z :: st)) := by
  subst hp hz
  exact OG.of fun s' T locs cl sl X target k => XS.iconst X.here C.1 rfl (C.d hd)  k
theorem OG.bipush (C : OC p s m meth c Z own nm bytes ml ret) {i : Int} {z : Int32} (hd : decode bytes pc = .ok (.bipush i, 2)) (hz : (Int8.ofInt i).toInt32 = z) (hp : pc + 2 = pc') : OG p l e R s m args below meth c Z SA n0 h (mkF m pc ls st) (mkF m pc' ls (.int z :: st)) := by
  subst hp hz
  exact OG.of fun s' T locs cl sl X target k => XS.bipush X.here C.1 rfl (C.d hd)  k
theorem OG.sipush (C : OC p s m meth c Z own nm bytes ml ret) {i : Int} {z : Int32} (hd : decode bytes pc = .ok (.sipush i, 3)) (hz : (Int16.ofInt i).toInt32 = z) (hp : pc + 3 = pc') : OG p l e R s m args below meth c Z SA n0 h (mkF m pc ls st) (mkF m pc' ls (.int z :: st)) := by
  subst hp hz
  exact OG.of fun s' T locs cl sl X target k => XS.sipush X.here C.1 rfl (C.d hd)  k
theorem OG.lconst (C : OC p s m meth c Z own nm bytes ml ret) {i : Fin 2} {z : Int64} (hd : decode bytes pc = .ok (.lconst i, 1)) (hz : Int64.ofNat i = z) (hp : pc + 1 = pc') : OG p l e R s m args below meth c Z SA n0 h (mkF m pc ls st) (mkF m pc' ls (.long z :: st)) := by
  subst hp hz
  exact OG.of fun s' T locs cl sl X target k => XS.lconst X.here C.1 rfl (C.d hd)  k
theorem OG.aconst_null (C : OC p s m meth c Z own nm bytes ml ret)  (hd : decode bytes pc = .ok (.aconst_null, 1))  (hp : pc + 1 = pc') : OG p l e R s m args below meth c Z SA n0 h (mkF m pc ls st) (mkF m pc' ls (.null :: st)) := by
  subst hp
  exact OG.of fun s' T locs cl sl X target k => XS.aconstNull X.here C.1 rfl (C.d hd)  k
theorem OG.iadd (C : OC p s m meth c Z own nm bytes ml ret) {x y : Int32} (hd : decode bytes pc = .ok (.iadd, 1))  (hp : pc + 1 = pc') : OG p l e R s m args below meth c Z SA n0 h (mkF m pc ls (.int y :: .int x :: st)) (mkF m pc' ls (.int (x + y) :: st)) := by
  subst hp
  exact OG.of fun s' T locs cl sl X target k => XS.iadd X.here C.1 rfl (C.d hd) rfl k
theorem OG.ladd (C : OC p s m meth c Z own nm bytes ml ret) {x y : Int64} (hd : decode bytes pc = .ok (.ladd, 1))  (hp : pc + 1 = pc') : OG p l e R s m args below meth c Z SA n0 h (mkF m pc ls (.long y :: .long x :: st)) (mkF m pc' ls (.long (x + y) :: st)) := by
  subst hp
  exact OG.of fun s' T locs cl sl X target k => XS.ladd X.here C.1 rfl (C.d hd) rfl k
theorem OG.isub (C : OC p s m meth c Z own nm bytes ml ret) {x y : Int32} (hd : decode bytes pc = .ok (.isub, 1))  (hp : pc + 1 = pc') : OG p l e R s m args below meth c Z SA n0 h (mkF m pc ls (.int y :: .int x :: st)) (mkF m pc' ls (.int (x - y) :: st)) := by
  subst hp
  exact OG.of fun s' T locs cl sl X target k => XS.isub X.here C.1 rfl (C.d hd) rfl k
theorem OG.lsub (C : OC p s m meth c Z own nm bytes ml ret) {x y : Int64} (hd : decode bytes pc = .ok (.lsub, 1))  (hp : pc + 1 = pc') : OG p l e R s m args below meth c Z SA n0 h (mkF m pc ls (.long y :: .long x :: st)) (mkF m pc' ls (.long (x - y) :: st)) := by
  subst hp
  exact OG.of fun s' T locs cl sl X target k => XS.lsub X.here C.1 rfl (C.d hd) rfl k
theorem OG.imul (C : OC p s m meth c Z own nm bytes ml ret) {x y : Int32} (hd : decode bytes pc = .ok (.imul, 1))  (hp : pc + 1 = pc') : OG p l e R s m args below meth c Z SA n0 h (mkF m pc ls (.int y :: .int x :: st)) (mkF m pc' ls (.int (x * y) :: st)) := by
  subst hp
  exact OG.of fun s' T locs cl sl X target k => XS.imul X.here C.1 rfl (C.d hd) rfl k
theorem OG.lmul (C : OC p s m meth c Z own nm bytes ml ret) {x y : Int64} (hd : decode bytes pc = .ok (.lmul, 1))  (hp : pc + 1 = pc') : OG p l e R s m args below meth c Z SA n0 h (mkF m pc ls (.long y :: .long x :: st)) (mkF m pc' ls (.long (x * y) :: st)) := by
  subst hp
  exact OG.of fun s' T locs cl sl X target k => XS.lmul X.here C.1 rfl (C.d hd) rfl k
theorem OG.iand (C : OC p s m meth c Z own nm bytes ml ret) {x y : Int32} (hd : decode bytes pc = .ok (.iand, 1))  (hp : pc + 1 = pc') : OG p l e R s m args below meth c Z SA n0 h (mkF m pc ls (.int y :: .int x :: st)) (mkF m pc' ls (.int (x &&& y) :: st)) := by
  subst hp
  exact OG.of fun s' T locs cl sl X target k => XS.iand X.here C.1 rfl (C.d hd) rfl k
theorem OG.land (C : OC p s m meth c Z own nm bytes ml ret) {x y : Int64} (hd : decode bytes pc = .ok (.land, 1))  (hp : pc + 1 = pc') : OG p l e R s m args below meth c Z SA n0 h (mkF m pc ls (.long y :: .long x :: st)) (mkF m pc' ls (.long (x &&& y) :: st)) := by
  subst hp
  exact OG.of fun s' T locs cl sl X target k => XS.land X.here C.1 rfl (C.d hd) rfl k
theorem OG.ior (C : OC p s m meth c Z own nm bytes ml ret) {x y : Int32} (hd : decode bytes pc = .ok (.ior, 1))  (hp : pc + 1 = pc') : OG p l e R s m args below meth c Z SA n0 h (mkF m pc ls (.int y :: .int x :: st)) (mkF m pc' ls (.int (x ||| y) :: st)) := by
  subst hp
  exact OG.of fun s' T locs cl sl X target k => XS.ior X.here C.1 rfl (C.d hd) rfl k
theorem OG.lor (C : OC p s m meth c Z own nm bytes ml ret) {x y : Int64} (hd : decode bytes pc = .ok (.lor, 1))  (hp : pc + 1 = pc') : OG p l e R s m args below meth c Z SA n0 h (mkF m pc ls (.long y :: .long x :: st)) (mkF m pc' ls (.long (x ||| y) :: st)) := by
  subst hp
  exact OG.of fun s' T locs cl sl X target k => XS.lor X.here C.1 rfl (C.d hd) rfl k
theorem OG.ixor (C : OC p s m meth c Z own nm bytes ml ret) {x y : Int32} (hd : decode bytes pc = .ok (.ixor, 1))  (hp : pc + 1 = pc') : OG p l e R s m args below meth c Z SA n0 h (mkF m pc ls (.int y :: .int x :: st)) (mkF m pc' ls (.int (x ^^^ y) :: st)) := by
  subst hp
  exact OG.of fun s' T locs cl sl X target k => XS.ixor X.here C.1 rfl (C.d hd) rfl k
theorem OG.lxor (C : OC p s m meth c Z own nm bytes ml ret) {x y : Int64} (hd : decode bytes pc = .ok (.lxor, 1))  (hp : pc + 1 = pc') : OG p l e R s m args below meth c Z SA n0 h (mkF m pc ls (.long y :: .long x :: st)) (mkF m pc' ls (.long (x ^^^ y) :: st)) := by
  subst hp
  exact OG.of fun s' T locs cl sl X target k => XS.lxor X.here C.1 rfl (C.d hd) rfl k
theorem OG.idiv (C : OC p s m meth c Z own nm bytes ml ret) {x y : Int32} (hd : decode bytes pc = .ok (.idiv, 1)) (hy : y ≠ 0) (hp : pc + 1 = pc') : OG p l e R s m args below meth c Z SA n0 h (mkF m pc ls (.int y :: .int x :: st)) (mkF m pc' ls (.int (x / y) :: st)) := by
  subst hp
  exact OG.of fun s' T locs cl sl X target k => XS.idiv X.here C.1 rfl (C.d hd) rfl hy k
theorem OG.ldiv (C : OC p s m meth c Z own nm bytes ml ret) {x y : Int64} (hd : decode bytes pc = .ok (.ldiv, 1)) (hy : y ≠ 0) (hp : pc + 1 = pc') : OG p l e R s m args below meth c Z SA n0 h (mkF m pc ls (.long y :: .long x :: st)) (mkF m pc' ls (.long (x / y) :: st)) := by
  subst hp
  exact OG.of fun s' T locs cl sl X target k => XS.ldiv X.here C.1 rfl (C.d hd) rfl hy k
theorem OG.ineg (C : OC p s m meth c Z own nm bytes ml ret) {x : Int32} (hd : decode bytes pc = .ok (.ineg, 1))  (hp : pc + 1 = pc') : OG p l e R s m args below meth c Z SA n0 h (mkF m pc ls (.int x :: st)) (mkF m pc' ls (.int (-x) :: st)) := by
  subst hp
  exact OG.of fun s' T locs cl sl X target k => XS.ineg X.here C.1 rfl (C.d hd) rfl k
theorem OG.lneg (C : OC p s m meth c Z own nm bytes ml ret) {x : Int64} (hd : decode bytes pc = .ok (.lneg, 1))  (hp : pc + 1 = pc') : OG p l e R s m args below meth c Z SA n0 h (mkF m pc ls (.long x :: st)) (mkF m pc' ls (.long (-x) :: st)) := by
  subst hp
  exact OG.of fun s' T locs cl sl X target k => XS.lneg X.here C.1 rfl (C.d hd) rfl k
theorem OG.i2l (C : OC p s m meth c Z own nm bytes ml ret) {x : Int32} (hd : decode bytes pc = .ok (.i2l, 1))  (hp : pc + 1 = pc') : OG p l e R s m args below meth c Z SA n0 h (mkF m pc ls (.int x :: st)) (mkF m pc' ls (.long x.toInt64 :: st)) := by
  subst hp
  exact OG.of fun s' T locs cl sl X target k => XS.i2l X.here C.1 rfl (C.d hd) rfl k
theorem OG.l2i (C : OC p s m meth c Z own nm bytes ml ret) {x : Int64} (hd : decode bytes pc = .ok (.l2i, 1))  (hp : pc + 1 = pc') : OG p l e R s m args below meth c Z SA n0 h (mkF m pc ls (.long x :: st)) (mkF m pc' ls (.int x.toInt32 :: st)) := by
  subst hp
  exact OG.of fun s' T locs cl sl X target k => XS.l2i X.here C.1 rfl (C.d hd) rfl k
theorem OG.i2b (C : OC p s m meth c Z own nm bytes ml ret) {x : Int32} (hd : decode bytes pc = .ok (.i2b, 1))  (hp : pc + 1 = pc') : OG p l e R s m args below meth c Z SA n0 h (mkF m pc ls (.int x :: st)) (mkF m pc' ls (.int x.toInt8.toInt32 :: st)) := by
  subst hp
  exact OG.of fun s' T locs cl sl X target k => XS.i2b X.here C.1 rfl (C.d hd) rfl k
theorem OG.i2c (C : OC p s m meth c Z own nm bytes ml ret) {x : Int32} (hd : decode bytes pc = .ok (.i2c, 1))  (hp : pc + 1 = pc') : OG p l e R s m args below meth c Z SA n0 h (mkF m pc ls (.int x :: st)) (mkF m pc' ls (.int x.toUInt32.toUInt16.toUInt32.toInt32 :: st)) := by
  subst hp
  exact OG.of fun s' T locs cl sl X target k => XS.i2c X.here C.1 rfl (C.d hd) rfl k
theorem OG.i2s (C : OC p s m meth c Z own nm bytes ml ret) {x : Int32} (hd : decode bytes pc = .ok (.i2s, 1))  (hp : pc + 1 = pc') : OG p l e R s m args below meth c Z SA n0 h (mkF m pc ls (.int x :: st)) (mkF m pc' ls (.int x.toInt16.toInt32 :: st)) := by
  subst hp
  exact OG.of fun s' T locs cl sl X target k => XS.i2s X.here C.1 rfl (C.d hd) rfl k
theorem OG.ishl (C : OC p s m meth c Z own nm bytes ml ret) {x y : Int32} (hd : decode bytes pc = .ok (.ishl, 1))  (hp : pc + 1 = pc') : OG p l e R s m args below meth c Z SA n0 h (mkF m pc ls (.int y :: .int x :: st)) (mkF m pc' ls (.int (x <<< (y &&& 31)) :: st)) := by
  subst hp
  exact OG.of fun s' T locs cl sl X target k => XS.ishl X.here C.1 rfl (C.d hd) rfl k
theorem OG.ishr (C : OC p s m meth c Z own nm bytes ml ret) {x y : Int32} (hd : decode bytes pc = .ok (.ishr, 1))  (hp : pc + 1 = pc') : OG p l e R s m args below meth c Z SA n0 h (mkF m pc ls (.int y :: .int x :: st)) (mkF m pc' ls (.int (x >>> (y &&& 31)) :: st)) := by
  subst hp
  exact OG.of fun s' T locs cl sl X target k => XS.ishr X.here C.1 rfl (C.d hd) rfl k
theorem OG.iushr (C : OC p s m meth c Z own nm bytes ml ret) {x y : Int32} (hd : decode bytes pc = .ok (.iushr, 1))  (hp : pc + 1 = pc') : OG p l e R s m args below meth c Z SA n0 h (mkF m pc ls (.int y :: .int x :: st)) (mkF m pc' ls (.int (x.toUInt32 >>> (y &&& 31).toUInt32).toInt32 :: st)) := by
  subst hp
  exact OG.of fun s' T locs cl sl X target k => XS.iushr X.here C.1 rfl (C.d hd) rfl k
theorem OG.lshl (C : OC p s m meth c Z own nm bytes ml ret) {x : Int64} {y : Int32} (hd : decode bytes pc = .ok (.lshl, 1))  (hp : pc + 1 = pc') : OG p l e R s m args below meth c Z SA n0 h (mkF m pc ls (.int y :: .long x :: st)) (mkF m pc' ls (.long (x <<< (y &&& 0x3f).toInt64) :: st)) := by
  subst hp
  exact OG.of fun s' T locs cl sl X target k => XS.lshl X.here C.1 rfl (C.d hd) rfl k
theorem OG.lshr (C : OC p s m meth c Z own nm bytes ml ret) {x : Int64} {y : Int32} (hd : decode bytes pc = .ok (.lshr, 1))  (hp : pc + 1 = pc') : OG p l e R s m args below meth c Z SA n0 h (mkF m pc ls (.int y :: .long x :: st)) (mkF m pc' ls (.long (x >>> (y &&& 0x3f).toInt64) :: st)) := by
  subst hp
  exact OG.of fun s' T locs cl sl X target k => XS.lshr X.here C.1 rfl (C.d hd) rfl k
theorem OG.lushr (C : OC p s m meth c Z own nm bytes ml ret) {x : Int64} {y : Int32} (hd : decode bytes pc = .ok (.lushr, 1))  (hp : pc + 1 = pc') : OG p l e R s m args below meth c Z SA n0 h (mkF m pc ls (.int y :: .long x :: st)) (mkF m pc' ls (.long (x.toUInt64 >>> (y &&& 0x3f).toInt64.toUInt64).toInt64 :: st)) := by
  subst hp
  exact OG.of fun s' T locs cl sl X target k => XS.lushr X.here C.1 rfl (C.d hd) rfl k
theorem OG.lcmp (C : OC p s m meth c Z own nm bytes ml ret) {x y : Int64} (hd : decode bytes pc = .ok (.lcmp, 1))  (hp : pc + 1 = pc') : OG p l e R s m args below meth c Z SA n0 h (mkF m pc ls (.long y :: .long x :: st)) (mkF m pc' ls (.int (lcmpW x y) :: st)) := by
  subst hp
  exact OG.of fun s' T locs cl sl X target k => XS.lcmp X.here C.1 rfl (C.d hd) rfl k
theorem OG.dup (C : OC p s m meth c Z own nm bytes ml ret) {x : Value} (hd : decode bytes pc = .ok (.dup, 1)) (hc : x.category = 1) (hp : pc + 1 = pc') : OG p l e R s m args below meth c Z SA n0 h (mkF m pc ls (x :: st)) (mkF m pc' ls (x :: x :: st)) := by
  subst hp
  exact OG.of fun s' T locs cl sl X target k => XS.dup X.here C.1 rfl (C.d hd) rfl hc k
theorem OG.pop (C : OC p s m meth c Z own nm bytes ml ret) {x : Value} (hd : decode bytes pc = .ok (.pop, 1)) (hc : x.category = 1) (hp : pc + 1 = pc') : OG p l e R s m args below meth c Z SA n0 h (mkF m pc ls (x :: st)) (mkF m pc' ls st) := by
  subst hp
  exact OG.of fun s' T locs cl sl X target k => XS.pop X.here C.1 rfl (C.d hd) rfl hc k
theorem OG.iinc (C : OC p s m meth c Z own nm bytes ml ret) {k : Nat} {i : Int} {x z : Int32} (hd : decode bytes pc = .ok (.iinc k i, 3)) (hz : Int32.ofInt i = z) (hl : ls[k]? = some (.val (.int x))) (hl' : storeLocals ls k (.int (x + z)) = some ls') (hp : pc + 3 = pc') : OG p l e R s m args below meth c Z SA n0 h (mkF m pc ls st) (mkF m pc' ls' st) := by
  subst hp hz
  exact OG.of fun s' T locs cl sl X target k => XS.iinc X.here C.1 rfl (C.d hd) hl hl' k
theorem OG.goto (C : OC p s m meth c Z own nm bytes ml ret) {o : Int} (hd : decode bytes pc = .ok (.goto o, 3)) (ho : 0 ≤ (pc : Int) + o) (hp : ((pc : Int) + o).toNat = pc') : OG p l e R s m args below meth c Z SA n0 h (mkF m pc ls st) (mkF m pc' ls st) := OG.of fun s' T locs cl sl X target k => XS.goto X.here C.1 rfl (pc0 := pc) rfl (C.d hd) ho hp k
theorem OG.ifYes (C : OC p s m meth c Z own nm bytes ml ret) {o : Int} {cd : ClassFile.Cond} {x : Int32} (hd : decode bytes pc = .ok (.ifCond cd o, 3)) (hc : ifCond.holds cd x = true) (ho : 0 ≤ (pc : Int) + o) (hp : ((pc : Int) + o).toNat = pc') : OG p l e R s m args below meth c Z SA n0 h (mkF m pc ls (.int x :: st)) (mkF m pc' ls st) := OG.of fun s' T locs cl sl X target k => XS.ifYes X.here C.1 rfl (pc0 := pc) rfl (C.d hd) rfl hc ho hp k
theorem OG.ifNo (C : OC p s m meth c Z own nm bytes ml ret) {o : Int} {cd : ClassFile.Cond} {x : Int32} (hd : decode bytes pc = .ok (.ifCond cd o, 3)) (hc : ifCond.holds cd x = false) (hp : pc + 3 = pc') : OG p l e R s m args below meth c Z SA n0 h (mkF m pc ls (.int x :: st)) (mkF m pc' ls st) := by
  subst hp
  exact OG.of fun s' T locs cl sl X target k => XS.ifNo X.here C.1 rfl (C.d hd) rfl hc k
theorem OG.icmpYes (C : OC p s m meth c Z own nm bytes ml ret) {o : Int} {cd : ClassFile.Cond} {x y : Int32} (hd : decode bytes pc = .ok (.if_icmp cd o, 3)) (hc : if_icmp.holds cd x y = true) (ho : 0 ≤ (pc : Int) + o) (hp : ((pc : Int) + o).toNat = pc') : OG p l e R s m args below meth c Z SA n0 h (mkF m pc ls (.int y :: .int x :: st)) (mkF m pc' ls st) := OG.of fun s' T locs cl sl X target k => XS.icmpYes X.here C.1 rfl (pc0 := pc) rfl (C.d hd) rfl hc ho hp k
theorem OG.icmpNo (C : OC p s m meth c Z own nm bytes ml ret) {o : Int} {cd : ClassFile.Cond} {x y : Int32} (hd : decode bytes pc = .ok (.if_icmp cd o, 3)) (hc : if_icmp.holds cd x y = false) (hp : pc + 3 = pc') : OG p l e R s m args below meth c Z SA n0 h (mkF m pc ls (.int y :: .int x :: st)) (mkF m pc' ls st) := by
  subst hp
  exact OG.of fun s' T locs cl sl X target k => XS.icmpNo X.here C.1 rfl (C.d hd) rfl hc k
theorem OG.ifnullYes (C : OC p s m meth c Z own nm bytes ml ret) {o : Int}  (hd : decode bytes pc = .ok (.ifnull o, 3))  (ho : 0 ≤ (pc : Int) + o) (hp : ((pc : Int) + o).toNat = pc') : OG p l e R s m args below meth c Z SA n0 h (mkF m pc ls (.null :: st)) (mkF m pc' ls st) := OG.of fun s' T locs cl sl X target k => XS.ifnullYes X.here C.1 rfl (pc0 := pc) rfl (C.d hd) rfl ho hp k
theorem OG.ifnullNo (C : OC p s m meth c Z own nm bytes ml ret) {o : Int} {b : Addr} (hd : decode bytes pc = .ok (.ifnull o, 3))  (hp : pc + 3 = pc') : OG p l e R s m args below meth c Z SA n0 h (mkF m pc ls (.ref b :: st)) (mkF m pc' ls st) := by
  subst hp
  exact OG.of fun s' T locs cl sl X target k => XS.ifnullNo X.here C.1 rfl (C.d hd) rfl k
theorem OG.ifnonnullYes (C : OC p s m meth c Z own nm bytes ml ret) {o : Int} {b : Addr} (hd : decode bytes pc = .ok (.ifnonnull o, 3))  (ho : 0 ≤ (pc : Int) + o) (hp : ((pc : Int) + o).toNat = pc') : OG p l e R s m args below meth c Z SA n0 h (mkF m pc ls (.ref b :: st)) (mkF m pc' ls st) := OG.of fun s' T locs cl sl X target k => XS.ifnonnullYes X.here C.1 rfl (pc0 := pc) rfl (C.d hd) rfl ho hp k
theorem OG.ifnonnullNo (C : OC p s m meth c Z own nm bytes ml ret) {o : Int}  (hd : decode bytes pc = .ok (.ifnonnull o, 3))  (hp : pc + 3 = pc') : OG p l e R s m args below meth c Z SA n0 h (mkF m pc ls (.null :: st)) (mkF m pc' ls st) := by
  subst hp
  exact OG.of fun s' T locs cl sl X target k => XS.ifnonnullNo X.here C.1 rfl (C.d hd) rfl k
theorem OG.irem (C : OC p s m meth c Z own nm bytes ml ret) {x y : Int32} (hd : decode bytes pc = .ok (.irem, 1)) (hy : y ≠ 0) (hp : pc + 1 = pc') : OG p l e R s m args below meth c Z SA n0 h (mkF m pc ls (.int y :: .int x :: st)) (mkF m pc' ls (.int (x % y) :: st)) := by
  subst hp
  refine OG.of fun s' T locs cl sl X target k => XS.irem X.here C.1 rfl (C.d hd) rfl hy ?_
  rw [irem_eq_mod x y]; exact k
theorem OG.lrem (C : OC p s m meth c Z own nm bytes ml ret) {x y : Int64} (hd : decode bytes pc = .ok (.lrem, 1)) (hy : y ≠ 0) (hp : pc + 1 = pc') : OG p l e R s m args below meth c Z SA n0 h (mkF m pc ls (.long y :: .long x :: st)) (mkF m pc' ls (.long (x % y) :: st)) := by
  subst hp
  refine OG.of fun s' T locs cl sl X target k => XS.lrem X.here C.1 rfl (C.d hd) rfl hy ?_
  rw [lrem_mod x y]; exact k
theorem OG.acmp (C : OC p s m meth c Z own nm bytes ml ret) {o : Int} {cd : ACond} {x y : Value} {same : Bool} (hd : decode bytes pc = .ok (.if_acmp cd o, 3)) (h1 : x.isRef = true) (h2 : y.isRef = true) (hq : decide (x = y) = same) (ho : 0 ≤ (pc : Int) + o) (hp : pc' = if acV cd same = true then ((pc : Int) + o).toNat else pc + 3) :
    OG p l e R s m args below meth c Z SA n0 h (mkF m pc ls (y :: x :: st)) (mkF m pc' ls st) :=
  OG.of fun s' T locs cl sl X target k => RoadKit.acmp X C.1 rfl h1 h2 (pc0 := pc) rfl (C.d hd) rfl hq ho hp k
theorem OG.ldcI (C : OC p s m meth c Z own nm bytes ml ret) {i : Nat} {v : Int32} (w : (Cond.constant own i v).before a0 Z = true) (hd : decode bytes pc = .ok (.ldc i, 2)) (hp : pc + 2 = pc') : OG p l e R s m args below meth c Z SA n0 h (mkF m pc ls st) (mkF m pc' ls (.int v :: st)) := by
  subst hp
  rintro T locs cl sl ⟨vm0, k0, X, N0, e0, bc, bs, hS, hk, hC, hA⟩
  have C := C.lift hS
  exact ⟨T, locs, ⟨vm0, k0, X, N0, e0, bc, bs, hS, hk, hC, hA⟩, fun target k => X.ldcInt C.1 C.2.2.2.1 (mv C.2.2.1 w) (g := mkF m pc ls st) rfl (C.d hd) target k⟩
theorem OG.ldcL (C : OC p s m meth c Z own nm bytes ml ret) {i : Nat} {v : Int64} (w : (Cond.constantLong own i v).before a0 Z = true) (hd : decode bytes pc = .ok (.ldc2_w i, 3)) (hp : pc + 3 = pc') : OG p l e R s m args below meth c Z SA n0 h (mkF m pc ls st) (mkF m pc' ls (.long v :: st)) := by
  subst hp
  rintro T locs cl sl ⟨vm0, k0, X, N0, e0, bc, bs, hS, hk, hC, hA⟩
  have C := C.lift hS
  exact ⟨T, locs, ⟨vm0, k0, X, N0, e0, bc, bs, hS, hk, hC, hA⟩, fun target k => X.ldc2Long C.1 C.2.2.2.1 (mv C.2.2.1 w) (g := mkF m pc ls st) rfl (C.d hd) target k⟩
theorem OG.ldcS (C : OC p s m meth c Z own nm bytes ml ret) {i : Nat} {t : String} {a : Addr} (w : (Cond.stringRef own i t).before a0 Z = true) (F : Lit Z own i a) (hd : decode bytes pc = .ok (.ldc i, 2)) (hp : pc + 2 = pc') : OG p l e R s m args below meth c Z SA n0 h (mkF m pc ls st) (mkF m pc' ls (.ref a :: st)) := by
  subst hp
  rintro T locs cl sl ⟨vm0, k0, X, N0, e0, bc, bs, hS, hk, hC, hA⟩
  have C := C.lift hS
  exact ⟨T, locs, ⟨vm0, k0, X, N0, e0, bc, bs, hS, hk, hC, hA⟩, fun target k => ldcR X C.1 C.2.2.1 C.2.2.2.1 w F (g := mkF m pc ls st) rfl (C.d hd) target k⟩
theorem OG.getF (C : OC p s m meth c Z own nm bytes ml ret) {R0 O n d host : String} {i : Nat} {a : Addr} {v : Value} (w : (Cond.fieldLink own i R0 n d).before a0 Z = true ∨ (Cond.fieldLinkNest own i R0 n d host).before a0 Z = true) (via : Via Z R0 O n d) (F : Fld Z h a O n d v) (hd : decode bytes pc = .ok (.getfield i, 3)) (hp : pc + 3 = pc') :
    OG p l e R s m args below meth c Z SA n0 h (mkF m pc ls (.ref a :: st)) (mkF m pc' ls (v :: st)) := by
  subst hp
  rintro T locs cl sl ⟨vm0, k0, X, N0, e0, bc, bs, hS, hk, hC, hA⟩
  have C := C.lift hS
  obtain ⟨T', X', e', k⟩ := RoadKit.getF X C.1 C.2.2.1 C.2.2.2.1 w via e0 F (g := mkF m pc ls (.ref a :: st)) rfl rfl (C.d hd)
  exact ⟨T', locs, ⟨vm0, k0, X', N0, e', bc, bs, hS, hk, hC, hA⟩, k⟩
theorem OG.getS (C : OC p s m meth c Z own nm bytes ml ret) {R0 O n d host : String} {i : Nat} {v : Value} (w : (Cond.fieldLink own i R0 n d).before a0 Z = true ∨ (Cond.fieldLinkNest own i R0 n d host).before a0 Z = true) (via : Via Z R0 O n d) (F : Sta Z h O n d v) (hd : decode bytes pc = .ok (.getstatic i, 3)) (hp : pc + 3 = pc') :
    OG p l e R s m args below meth c Z SA n0 h (mkF m pc ls st) (mkF m pc' ls (v :: st)) := by
  subst hp
  rintro T locs cl sl ⟨vm0, k0, X, N0, e0, bc, bs, hS, hk, hC, hA⟩
  have C := C.lift hS
  obtain ⟨T', X', e', k⟩ := getS2 X C.1 C.2.2.1 C.2.2.2.1 w via e0 F (g := mkF m pc ls st) rfl (C.d hd)
  exact ⟨T', locs, ⟨vm0, k0, X', N0, e', bc, bs, hS, hk, hC, hA⟩, k⟩
/-- an array and what stands in it -/
def OA (Z : State) (h : Heap) (a : Addr) (ty : FieldType) (vs : List Value) : Prop := ∃ c : Cell, Arr Z h a c ty ∧ c.slots.toList = vs
theorem OA.lt {a : Addr} {ty : FieldType} {vs : List Value} (A : OA Z h a ty vs) : a < h.size := by obtain ⟨c, A, -⟩ := A; exact A.lt
theorem OA.ext {h' : Heap} {a : Addr} {ty : FieldType} {vs : List Value} (A : OA Z h a ty vs) (E : Ext h h') : OA Z h' a ty vs := by obtain ⟨c, A, r⟩ := A; exact ⟨c, A.ext E, r⟩
theorem OA.other {h' : Heap} {a b : Addr} {k : Nat} {v : Value} {ty : FieldType} {vs : List Value} (A : OA Z h a ty vs) (W : Wr h h' b k v) (q : a ≠ b) : OA Z h' a ty vs := by obtain ⟨c, A, r⟩ := A; exact ⟨c, A.other W q, r⟩
theorem OA.same {h' : Heap} {a : Addr} {k : Nat} {v : Value} {ty : FieldType} {vs : List Value} (A : OA Z h a ty vs) (W : Wr h h' a k v) : OA Z h' a ty (vs.set k v) := by
  obtain ⟨c, A, r⟩ := A
  exact ⟨_, A.same W, by subst r; simp [Cell.setSlot]⟩
theorem OA.keep {h' : Heap} {a : Addr} {ws : List Addr} {ty : FieldType} {vs : List Value} (A : OA Z h a ty vs) (W : Keep h h' ws) (q : a ∉ ws) : OA Z h' a ty vs := by obtain ⟨c, A, r⟩ := A; exact ⟨c, ⟨W.2.1 a c A.1 q, A.2⟩, r⟩
theorem OA.inb {c : Cell} {vs : List Value} {j : Int32} (r : c.slots.toList = vs) (q : 0 ≤ j.toInt ∧ j.toInt < vs.length) : ¬ (j < 0 ∨ c.slots.size ≤ j.toNatClampNeg) := by
  have : c.slots.size = vs.length := by rw [← r]; simp
  rw [Int32.lt_iff_toInt_lt, Int32.toNatClampNeg]
  simp only [Int32.reduceToInt]; omega
theorem own_ib {j : Int32} {vs : List Value} {n : Nat} (q : vs.length = n) (r : 0 ≤ j.toInt ∧ j.toInt < (n : Int)) : 0 ≤ j.toInt ∧ j.toInt < vs.length := by rw [q]; exact r
theorem OA.new {k : ClassId} {a : Addr} {ty : FieldType} {z : Int32} {n : Nat} (A : Arr Z h a (newA k ty z) ty) (q : z.toNatClampNeg = n) : OA Z h a ty (List.replicate n (defaultValue ty)) := ⟨_, A, by subst q; simp [newA]⟩
theorem OG.laload (C : OC p s m meth c Z own nm bytes ml ret) {a : Addr} {j : Int32} {vs : List Value} {v : Value} (F : OA Z h a .long vs) (q : 0 ≤ j.toInt ∧ j.toInt < vs.length) (hv : vs[j.toNatClampNeg]? = some v) (hd : decode bytes pc = .ok (.laload, 1)) (hp : pc + 1 = pc') :
    OG p l e R s m args below meth c Z SA n0 h (mkF m pc ls (.int j :: .ref a :: st)) (mkF m pc' ls (v :: st)) := by
  subst hp
  rintro T locs cl sl ⟨vm0, k0, X, N0, e0, bc, bs, hS, hk, hC, hA⟩
  have C := C.lift hS
  obtain ⟨cc, A, r⟩ := F
  exact ⟨T, locs, ⟨vm0, k0, X, N0, e0, bc, bs, hS, hk, hC, hA⟩, X.laload C.1 (by rw [e0]; exact A.1) (State.isArrayOf_alike C.2.2.1.alike A.2.1) A.2.2 (OA.inb r q) (by rw [← r] at hv; simpa using hv) (g := mkF m pc ls (.int j :: .ref a :: st)) rfl rfl (C.d hd)⟩
theorem OG.iaload (C : OC p s m meth c Z own nm bytes ml ret) {a : Addr} {j : Int32} {vs : List Value} {v : Value} (F : OA Z h a .int vs) (q : 0 ≤ j.toInt ∧ j.toInt < vs.length) (hv : vs[j.toNatClampNeg]? = some v) (hd : decode bytes pc = .ok (.iaload, 1)) (hp : pc + 1 = pc') :
    OG p l e R s m args below meth c Z SA n0 h (mkF m pc ls (.int j :: .ref a :: st)) (mkF m pc' ls (v :: st)) := by
  subst hp
  rintro T locs cl sl ⟨vm0, k0, X, N0, e0, bc, bs, hS, hk, hC, hA⟩
  have C := C.lift hS
  obtain ⟨cc, A, r⟩ := F
  exact ⟨T, locs, ⟨vm0, k0, X, N0, e0, bc, bs, hS, hk, hC, hA⟩, X.iaload C.1 (by rw [e0]; exact A.1) (State.isArrayOf_alike C.2.2.1.alike A.2.1) A.2.2 (OA.inb r q) (by rw [← r] at hv; simpa using hv) (g := mkF m pc ls (.int j :: .ref a :: st)) rfl rfl (C.d hd)⟩
theorem OG.caload (C : OC p s m meth c Z own nm bytes ml ret) {a : Addr} {j : Int32} {vs : List Value} {v : Value} (F : OA Z h a .char vs) (q : 0 ≤ j.toInt ∧ j.toInt < vs.length) (hv : vs[j.toNatClampNeg]? = some v) (hd : decode bytes pc = .ok (.caload, 1)) (hp : pc + 1 = pc') :
    OG p l e R s m args below meth c Z SA n0 h (mkF m pc ls (.int j :: .ref a :: st)) (mkF m pc' ls (v :: st)) := by
  subst hp
  rintro T locs cl sl ⟨vm0, k0, X, N0, e0, bc, bs, hS, hk, hC, hA⟩
  have C := C.lift hS
  obtain ⟨cc, A, r⟩ := F
  exact ⟨T, locs, ⟨vm0, k0, X, N0, e0, bc, bs, hS, hk, hC, hA⟩, X.caload C.1 (by rw [e0]; exact A.1) (State.isArrayOf_alike C.2.2.1.alike A.2.1) A.2.2 (OA.inb r q) (by rw [← r] at hv; simpa using hv) (g := mkF m pc ls (.int j :: .ref a :: st)) rfl rfl (C.d hd)⟩
theorem OG.baload (C : OC p s m meth c Z own nm bytes ml ret) {a : Addr} {j : Int32} {vs : List Value} {v : Value} (F : OA Z h a .byte vs) (q : 0 ≤ j.toInt ∧ j.toInt < vs.length) (hv : vs[j.toNatClampNeg]? = some v) (hd : decode bytes pc = .ok (.baload, 1)) (hp : pc + 1 = pc') :
    OG p l e R s m args below meth c Z SA n0 h (mkF m pc ls (.int j :: .ref a :: st)) (mkF m pc' ls (v :: st)) := by
  subst hp
  rintro T locs cl sl ⟨vm0, k0, X, N0, e0, bc, bs, hS, hk, hC, hA⟩
  have C := C.lift hS
  obtain ⟨cc, A, r⟩ := F
  exact ⟨T, locs, ⟨vm0, k0, X, N0, e0, bc, bs, hS, hk, hC, hA⟩, X.baloadBytes C.1 (by rw [e0]; exact A.1) (State.isArrayOf_alike C.2.2.1.alike A.2.1) A.2.2 (OA.inb r q) (by rw [← r] at hv; simpa using hv) (g := mkF m pc ls (.int j :: .ref a :: st)) rfl rfl (C.d hd)⟩
theorem OG.aaload (C : OC p s m meth c Z own nm bytes ml ret) {a : Addr} {j : Int32} {ty : FieldType} {vs : List Value} {v : Value} (F : OA Z h a ty vs) (ht : ty.isReference = true) (q : 0 ≤ j.toInt ∧ j.toInt < vs.length) (hv : vs[j.toNatClampNeg]? = some v) (hd : decode bytes pc = .ok (.aaload, 1)) (hp : pc + 1 = pc') :
    OG p l e R s m args below meth c Z SA n0 h (mkF m pc ls (.int j :: .ref a :: st)) (mkF m pc' ls (v :: st)) := by
  subst hp
  rintro T locs cl sl ⟨vm0, k0, X, N0, e0, bc, bs, hS, hk, hC, hA⟩
  have C := C.lift hS
  obtain ⟨cc, A, r⟩ := F
  exact ⟨T, locs, ⟨vm0, k0, X, N0, e0, bc, bs, hS, hk, hC, hA⟩, X.aaload C.1 (by rw [e0]; exact A.1) (State.isArrayOf_alike C.2.2.1.alike A.2.1) ht A.2.2 (OA.inb r q) (by rw [← r] at hv; simpa using hv) (g := mkF m pc ls (.int j :: .ref a :: st)) rfl rfl (C.d hd)⟩
theorem OG.arraylength (C : OC p s m meth c Z own nm bytes ml ret) {a : Addr} {ty : FieldType} {vs : List Value} {z : Int32} (F : OA Z h a ty vs) (hz : vs.length.toInt32 = z) (hd : decode bytes pc = .ok (.arraylength, 1)) (hp : pc + 1 = pc') :
    OG p l e R s m args below meth c Z SA n0 h (mkF m pc ls (.ref a :: st)) (mkF m pc' ls (.int z :: st)) := by
  subst hp hz
  rintro T locs cl sl ⟨vm0, k0, X, N0, e0, bc, bs, hS, hk, hC, hA⟩
  have C := C.lift hS
  obtain ⟨cc, A, r⟩ := F
  refine ⟨T, locs, ⟨vm0, k0, X, N0, e0, bc, bs, hS, hk, hC, hA⟩, fun t k => X.arraylength C.1 (by rw [e0]; exact A.1) (State.isArrayOf_alike C.2.2.1.alike A.2.1) (g := mkF m pc ls (.ref a :: st)) rfl rfl (C.d hd) t ?_⟩
  have : cc.slots.size = vs.length := by rw [← r]; simp
  rw [this]; exact k
/-! returns -/
theorem OW.retI (C : OC p s m meth c Z own nm bytes ml (some .int)) {z : Int32} (hd : decode bytes pc = .ok (.ireturn, 1)) (hK : cl ≤ K) (hN : sl ≤ N) (hQ : Q (some (.int z)) h) : OW p l e R s m args below meth c Z SA n0 Q K N h cl sl (mkF m pc ls (.int z :: st)) := fun T locs ⟨vm0, k0, X, N0, e0, bc, bs, hS, hk, hC, hA⟩ => by
  have C := C.lift hS
  obtain ⟨fs, hr, hrun, hended, hW⟩ := X.leaveW hS (by rw [e0]; exact hk) (v := some (.int z)) (fun q => by rw [C.2.2.2.2.2.1] at q; cases q) C.2.2.2.2.2.2.1
  exact ⟨_, _, retOut X C.1 C.2.2.2.2.2.1 rfl (Or.inl ⟨rfl, Or.inl rfl, z, rfl⟩) (C.d hd) hr, hrun, hended, _, locs, rfl, ⟨by show Q _ T.heap; rw [e0]; exact hQ, N0⟩, (by show CHr Z EL0 s.vm s.heap T.vm T.heap; rw [e0]; exact hC.trans (by obtain ⟨a1, hw1⟩ := C.2.2.2.2.2.2.2.2; exact CHv.at X C.2.2.1 hw1 hC.1)), RW.mono hW hK hN⟩
theorem OW.retN {t : FieldType} (C : OC p s m meth c Z own nm bytes ml (some t)) {z : Int32} (ht : t = .boolean ∨ t = .byte ∨ t = .char ∨ t = .short) (hd : decode bytes pc = .ok (.ireturn, 1)) (hK : cl ≤ K) (hN : sl ≤ N) (hQ : Q (some (.int (nar t z))) h) : OW p l e R s m args below meth c Z SA n0 Q K N h cl sl (mkF m pc ls (.int z :: st)) := fun T locs ⟨vm0, k0, X, N0, e0, bc, bs, hS, hk, hC, hA⟩ => by
  have C := C.lift hS
  obtain ⟨fs, hr, hrun, hended, hW⟩ := X.leaveW hS (by rw [e0]; exact hk) (v := some (.int (nar t z))) (fun q => by rw [C.2.2.2.2.2.1] at q; cases q) C.2.2.2.2.2.2.1
  exact ⟨_, _, RoadKit.retN X C.1 C.2.2.2.2.2.1 ht (C.d hd) hr, hrun, hended, _, locs, rfl, ⟨by show Q _ T.heap; rw [e0]; exact hQ, N0⟩, (by show CHr Z EL0 s.vm s.heap T.vm T.heap; rw [e0]; exact hC.trans (by obtain ⟨a1, hw1⟩ := C.2.2.2.2.2.2.2.2; exact CHv.at X C.2.2.1 hw1 hC.1)), RW.mono hW hK hN⟩
theorem OW.retL (C : OC p s m meth c Z own nm bytes ml (some .long)) {z : Int64} (hd : decode bytes pc = .ok (.lreturn, 1)) (hK : cl ≤ K) (hN : sl ≤ N) (hQ : Q (some (.long z)) h) : OW p l e R s m args below meth c Z SA n0 Q K N h cl sl (mkF m pc ls (.long z :: st)) := fun T locs ⟨vm0, k0, X, N0, e0, bc, bs, hS, hk, hC, hA⟩ => by
  have C := C.lift hS
  obtain ⟨fs, hr, hrun, hended, hW⟩ := X.leaveW hS (by rw [e0]; exact hk) (v := some (.long z)) (fun q => by rw [C.2.2.2.2.2.1] at q; cases q) C.2.2.2.2.2.2.1
  exact ⟨_, _, retOut X C.1 C.2.2.2.2.2.1 rfl (Or.inr (Or.inl ⟨rfl, rfl, z, rfl⟩)) (C.d hd) hr, hrun, hended, _, locs, rfl, ⟨by show Q _ T.heap; rw [e0]; exact hQ, N0⟩, (by show CHr Z EL0 s.vm s.heap T.vm T.heap; rw [e0]; exact hC.trans (by obtain ⟨a1, hw1⟩ := C.2.2.2.2.2.2.2.2; exact CHv.at X C.2.2.1 hw1 hC.1)), RW.mono hW hK hN⟩
theorem OW.retA {t : FieldType} (C : OC p s m meth c Z own nm bytes ml (some t)) {v : Value} (ht : t.isReference = true) (hv : v.isRef = true) (hd : decode bytes pc = .ok (.areturn, 1)) (hK : cl ≤ K) (hN : sl ≤ N) (hQ : Q (some v) h) : OW p l e R s m args below meth c Z SA n0 Q K N h cl sl (mkF m pc ls (v :: st)) := fun T locs ⟨vm0, k0, X, N0, e0, bc, bs, hS, hk, hC, hA⟩ => by
  have C := C.lift hS
  have hn : narrow t v = v := by cases t <;> first | (cases ht; done) | (cases v <;> rfl)
  obtain ⟨fs, hr, hrun, hended, hW⟩ := X.leaveW hS (by rw [e0]; exact hk) (v := some v) (fun q => by rw [C.2.2.2.2.2.1] at q; cases q) C.2.2.2.2.2.2.1
  exact ⟨_, _, retOut X C.1 C.2.2.2.2.2.1 hn (Or.inr (Or.inr (Or.inr (Or.inr ⟨rfl, ht, hv⟩)))) (C.d hd) hr, hrun, hended, _, locs, rfl, ⟨by show Q _ T.heap; rw [e0]; exact hQ, N0⟩, (by show CHr Z EL0 s.vm s.heap T.vm T.heap; rw [e0]; exact hC.trans (by obtain ⟨a1, hw1⟩ := C.2.2.2.2.2.2.2.2; exact CHv.at X C.2.2.1 hw1 hC.1)), RW.mono hW hK hN⟩
theorem OW.retV (C : OC p s m meth c Z own nm bytes ml none) (hd : decode bytes pc = .ok (.return_, 1)) (hK : cl ≤ K) (hN : sl ≤ N) (hQ : Q none h) : OW p l e R s m args below meth c Z SA n0 Q K N h cl sl (mkF m pc ls []) := fun T locs ⟨vm0, k0, X, N0, e0, bc, bs, hS, hk, hC, hA⟩ => by
  have C := C.lift hS
  obtain ⟨fs, hr, hrun, hended, hW⟩ := X.leaveW hS (by rw [e0]; exact hk) (v := none) (fun _ => rfl) C.2.2.2.2.2.2.1
  exact ⟨_, _, X.returnOut C.1 C.2.2.2.2.2.1 (C.d hd) hr, hrun, hended, _, locs, rfl, ⟨by show Q _ T.heap; rw [e0]; exact hQ, N0⟩, (by show CHr Z EL0 s.vm s.heap T.vm T.heap; rw [e0]; exact hC.trans (by obtain ⟨a1, hw1⟩ := C.2.2.2.2.2.2.2.2; exact CHv.at X C.2.2.1 hw1 hC.1)), RW.mono hW hK hN⟩
/-! the heap: new, putfield, arrays -/
theorem OW.putF (C : OC p s m meth c Z own nm bytes ml ret) {R0 O n d host Cl : String} {i kk : Nat} {ty : FieldType} {a : Addr} {v old : Value} (w : (Cond.fieldLink own i R0 n d).before a0 Z = true ∨ (Cond.fieldLinkNest own i R0 n d host).before a0 Z = true) (via : Via Z R0 O n d) (F : Fld Z h a O n d old) (E : Exa Z h a Cl)
    (L : (Cond.lays Cl O n d).before a0 Z = true ∨ ((Cond.laysFinal Cl O n d).before a0 Z = true ∧ own = O ∧ nm = "<init>")) (wi : (Cond.instantiable Cl kk).before a0 Z = true) (hty : parseFieldDescriptor d = some ty) (hn : narrow ty v = v) (hf : fits ty v = true) (hna : n0 ≤ a) (hsf : ∀ vm, Z.vm.Alike vm → (∀ x ∈ SA, Safe Z EL0 vm h x) → Safe Z EL0 vm h a) (hd : decode bytes pc = .ok (.putfield i, 3)) (hp : pc + 3 = pc')
    (k : ∀ h', Wr h h' a (slotOf Z O n d) v → OW p l e R s m args below meth c Z SA n0 Q K N h' cl sl (mkF m pc' ls st)) : OW p l e R s m args below meth c Z SA n0 Q K N h cl sl (mkF m pc ls (v :: .ref a :: st)) := fun T locs ⟨vm0, k0, X, N0, e0, bc, bs, hS, hk, hC, hA⟩ => by
  have C := C.lift hS
  subst hp
  obtain ⟨T', h', X', e', W, kk⟩ := RoadKit.putF X C.1 C.2.2.1 C.2.2.2.1 w via e0 F E (L.imp id fun q => ⟨q.1, q.2.1, C.2.2.2.2.2.2.2.1.trans q.2.2⟩) wi hty hn hf (g := mkF m pc ls (v :: .ref a :: st)) rfl rfl (C.d hd)
  obtain ⟨s₂, o, q, r⟩ := k h' W T' _ ⟨vm0, k0, X', Fr.snoc X' N0 hna, e', bc, bs, hS, Nat.le_trans hk (Nat.le_of_eq W.size.symm), hC.trans (CHr.wr W (hsf _ C.2.2.1.alike fun x q => (hA x q).1) hC.1), fun x q => ⟨Safe.wr W (hsf _ C.2.2.1.alike fun x q => (hA x q).1) hC.1 (hA x q).1, by rw [W.size]; exact (hA x q).2⟩⟩
  exact ⟨s₂, o, kk _ q, r⟩
theorem OW.newO (C : OC p s m meth c Z own nm bytes ml ret) {Cl : String} {i nn : Nat} (w : (Cond.classLink own i Cl).before a0 Z = true) (wi : (Cond.instantiable Cl nn).before a0 Z = true) (wz : (Cond.initialized Cl).before a0 Z = true) (hd : decode bytes pc = .ok (.new i, 3)) (hc : cl + 1 ≤ R.cells) (hl : sl + nn ≤ R.slots) (hp : pc + 3 = pc')
    (k : ∀ (a : Addr) h', h.size = a → Ext h h' → Exa Z h' a Cl → (∀ {O nm d : String} {ty : FieldType}, Laid Z a0 Cl O nm d → parseFieldDescriptor d = some ty → Fld Z h' a O nm d (defaultValue ty)) → OW p l e R s m args below meth c Z (a :: SA) n0 Q K N h' (cl + 1) (sl + nn) (mkF m pc' ls (.ref a :: st))) : OW p l e R s m args below meth c Z SA n0 Q K N h cl sl (mkF m pc ls st) := fun T locs ⟨vm0, k0, X, N0, e0, bc, bs, hS, hk, hC, hA⟩ => by
  have C := C.lift hS
  subst hp
  obtain ⟨T', h', X', e', E, A, D, -, kk⟩ := RoadKit.newO X C.1 C.2.2.1 C.2.2.2.1 w wi wz e0 (g := mkF m pc ls st) rfl (C.d hd) hc hl
  obtain ⟨s₂, o, q, r⟩ := k _ h' rfl E A D T' _ ⟨vm0, k0, X', N0, e', hc, hl, hS, Nat.le_trans hk E.1, hC.trans (CHr.ext E hC.1), allS ⟨Safe.ext E hC.1 (Safe.new (Nat.le_refl _)), A.lt⟩ (fun x q => ⟨Safe.ext E hC.1 (hA x q).1, Nat.lt_of_lt_of_le (hA x q).2 E.1⟩)⟩
  exact ⟨s₂, o, kk _ q, r⟩
theorem OW.newP (C : OC p s m meth c Z own nm bytes ml ret) {aty : ArrayType} {n : Int32} {cap : Nat} {ty : FieldType} (hty : newarray.typeOf aty = ty) (w : (Cond.arrayClass ty).before a0 Z = true) (hn : ¬ n < 0) (hcap : n.toNatClampNeg = cap) (hb : cap * 8 ≤ 536870912) (hd : decode bytes pc = .ok (.newarray aty, 2)) (hc : cl + 1 ≤ R.cells) (hl : sl + cap ≤ R.slots) (hp : pc + 2 = pc')
    (k : ∀ (a : Addr) h', h.size = a → Ext h h' → OA Z h' a ty (List.replicate cap (defaultValue ty)) → OW p l e R s m args below meth c Z (a :: SA) n0 Q K N h' (cl + 1) (sl + cap) (mkF m pc' ls (.ref a :: st))) : OW p l e R s m args below meth c Z SA n0 Q K N h cl sl (mkF m pc ls (.int n :: st)) := fun T locs ⟨vm0, k0, X, N0, e0, bc, bs, hS, hk, hC, hA⟩ => by
  have C := C.lift hS
  subst hp hty
  obtain ⟨T', h', cA, X', e', E, A, kk⟩ := RoadKit.newP X C.1 C.2.2.1 w e0 (g := mkF m pc ls (.int n :: st)) rfl (C.d hd) rfl hn (Nat.le_of_eq hcap) hb hc hl
  obtain ⟨s₂, o, q, r⟩ := k _ h' rfl E (OA.new A hcap) T' _ ⟨vm0, k0, X', N0, e', hc, hl, hS, Nat.le_trans hk E.1, hC.trans (CHr.ext E hC.1), allS ⟨Safe.ext E hC.1 (Safe.new (Nat.le_refl _)), A.lt⟩ (fun x q => ⟨Safe.ext E hC.1 (hA x q).1, Nat.lt_of_lt_of_le (hA x q).2 E.1⟩)⟩
  exact ⟨s₂, o, kk _ q, r⟩
theorem OW.lastore (C : OC p s m meth c Z own nm bytes ml ret) {a : Addr} {j : Int32} {x : Int64} {vs : List Value} (F : OA Z h a .long vs) (q : 0 ≤ j.toInt ∧ j.toInt < vs.length) (hna : n0 ≤ a) (hsf : ∀ vm, Z.vm.Alike vm → (∀ x ∈ SA, Safe Z EL0 vm h x) → Safe Z EL0 vm h a) (hd : decode bytes pc = .ok (.lastore, 1)) (hp : pc + 1 = pc')
    (k : ∀ h', Wr h h' a j.toNatClampNeg (.long x) → OW p l e R s m args below meth c Z SA n0 Q K N h' cl sl (mkF m pc' ls st)) : OW p l e R s m args below meth c Z SA n0 Q K N h cl sl (mkF m pc ls (.long x :: .int j :: .ref a :: st)) := fun T locs ⟨vm0, k0, X, N0, e0, bc, bs, hS, hk, hC, hA⟩ => by
  have C := C.lift hS
  subst hp
  obtain ⟨cc, A, r⟩ := F
  obtain ⟨T', h', X', e', W, kk⟩ := stJ X C.1 C.2.2.1 e0 A (OA.inb r q) (g := mkF m pc ls (.long x :: .int j :: .ref a :: st)) rfl rfl (C.d hd)
  obtain ⟨s₂, o, q, r⟩ := k h' W T' _ ⟨vm0, k0, X', Fr.snoc X' N0 hna, e', bc, bs, hS, Nat.le_trans hk (Nat.le_of_eq W.size.symm), hC.trans (CHr.wr W (hsf _ C.2.2.1.alike fun x q => (hA x q).1) hC.1), fun x q => ⟨Safe.wr W (hsf _ C.2.2.1.alike fun x q => (hA x q).1) hC.1 (hA x q).1, by rw [W.size]; exact (hA x q).2⟩⟩
  exact ⟨s₂, o, kk _ q, r⟩
theorem OW.iastore (C : OC p s m meth c Z own nm bytes ml ret) {a : Addr} {j x : Int32} {vs : List Value} (F : OA Z h a .int vs) (q : 0 ≤ j.toInt ∧ j.toInt < vs.length) (hna : n0 ≤ a) (hsf : ∀ vm, Z.vm.Alike vm → (∀ x ∈ SA, Safe Z EL0 vm h x) → Safe Z EL0 vm h a) (hd : decode bytes pc = .ok (.iastore, 1)) (hp : pc + 1 = pc')
    (k : ∀ h', Wr h h' a j.toNatClampNeg (.int x) → OW p l e R s m args below meth c Z SA n0 Q K N h' cl sl (mkF m pc' ls st)) : OW p l e R s m args below meth c Z SA n0 Q K N h cl sl (mkF m pc ls (.int x :: .int j :: .ref a :: st)) := fun T locs ⟨vm0, k0, X, N0, e0, bc, bs, hS, hk, hC, hA⟩ => by
  have C := C.lift hS
  subst hp
  obtain ⟨cc, A, r⟩ := F
  obtain ⟨T', h', X', e', W, kk⟩ := stI X C.1 C.2.2.1 e0 A (OA.inb r q) (g := mkF m pc ls (.int x :: .int j :: .ref a :: st)) rfl rfl (C.d hd)
  obtain ⟨s₂, o, q, r⟩ := k h' W T' _ ⟨vm0, k0, X', Fr.snoc X' N0 hna, e', bc, bs, hS, Nat.le_trans hk (Nat.le_of_eq W.size.symm), hC.trans (CHr.wr W (hsf _ C.2.2.1.alike fun x q => (hA x q).1) hC.1), fun x q => ⟨Safe.wr W (hsf _ C.2.2.1.alike fun x q => (hA x q).1) hC.1 (hA x q).1, by rw [W.size]; exact (hA x q).2⟩⟩
  exact ⟨s₂, o, kk _ q, r⟩
theorem OW.bastore (C : OC p s m meth c Z own nm bytes ml ret) {a : Addr} {j x : Int32} {vs : List Value} (F : OA Z h a .byte vs) (q : 0 ≤ j.toInt ∧ j.toInt < vs.length) (hna : n0 ≤ a) (hsf : ∀ vm, Z.vm.Alike vm → (∀ x ∈ SA, Safe Z EL0 vm h x) → Safe Z EL0 vm h a) (hd : decode bytes pc = .ok (.bastore, 1)) (hp : pc + 1 = pc')
    (k : ∀ h', Wr h h' a j.toNatClampNeg (.int (nar .byte x)) → OW p l e R s m args below meth c Z SA n0 Q K N h' cl sl (mkF m pc' ls st)) : OW p l e R s m args below meth c Z SA n0 Q K N h cl sl (mkF m pc ls (.int x :: .int j :: .ref a :: st)) := fun T locs ⟨vm0, k0, X, N0, e0, bc, bs, hS, hk, hC, hA⟩ => by
  have C := C.lift hS
  subst hp
  obtain ⟨cc, A, r⟩ := F
  obtain ⟨T', h', X', e', W, kk⟩ := stB X C.1 C.2.2.1 e0 A (OA.inb r q) (g := mkF m pc ls (.int x :: .int j :: .ref a :: st)) rfl rfl (C.d hd)
  obtain ⟨s₂, o, q, r⟩ := k h' W T' _ ⟨vm0, k0, X', Fr.snoc X' N0 hna, e', bc, bs, hS, Nat.le_trans hk (Nat.le_of_eq W.size.symm), hC.trans (CHr.wr W (hsf _ C.2.2.1.alike fun x q => (hA x q).1) hC.1), fun x q => ⟨Safe.wr W (hsf _ C.2.2.1.alike fun x q => (hA x q).1) hC.1 (hA x q).1, by rw [W.size]; exact (hA x q).2⟩⟩
  exact ⟨s₂, o, kk _ q, r⟩
theorem OW.castore (C : OC p s m meth c Z own nm bytes ml ret) {a : Addr} {j x : Int32} {vs : List Value} (F : OA Z h a .char vs) (q : 0 ≤ j.toInt ∧ j.toInt < vs.length) (hna : n0 ≤ a) (hsf : ∀ vm, Z.vm.Alike vm → (∀ x ∈ SA, Safe Z EL0 vm h x) → Safe Z EL0 vm h a) (hd : decode bytes pc = .ok (.castore, 1)) (hp : pc + 1 = pc')
    (k : ∀ h', Wr h h' a j.toNatClampNeg (.int (nar .char x)) → OW p l e R s m args below meth c Z SA n0 Q K N h' cl sl (mkF m pc' ls st)) : OW p l e R s m args below meth c Z SA n0 Q K N h cl sl (mkF m pc ls (.int x :: .int j :: .ref a :: st)) := fun T locs ⟨vm0, k0, X, N0, e0, bc, bs, hS, hk, hC, hA⟩ => by
  have C := C.lift hS
  subst hp
  obtain ⟨cc, A, r⟩ := F
  obtain ⟨T', h', X', e', W, kk⟩ := stC X C.1 C.2.2.1 e0 A (OA.inb r q) (g := mkF m pc ls (.int x :: .int j :: .ref a :: st)) rfl rfl (C.d hd)
  obtain ⟨s₂, o, q, r⟩ := k h' W T' _ ⟨vm0, k0, X', Fr.snoc X' N0 hna, e', bc, bs, hS, Nat.le_trans hk (Nat.le_of_eq W.size.symm), hC.trans (CHr.wr W (hsf _ C.2.2.1.alike fun x q => (hA x q).1) hC.1), fun x q => ⟨Safe.wr W (hsf _ C.2.2.1.alike fun x q => (hA x q).1) hC.1 (hA x q).1, by rw [W.size]; exact (hA x q).2⟩⟩
  exact ⟨s₂, o, kk _ q, r⟩
theorem OG.initO (C : OC p s m meth c Z own nm bytes ml ret) {i W : Nat} {a : Addr} (w1 : (Cond.methodLink own i Lib.objectInit).before a0 Z = true) (w2 : (Cond.instanceMethod Lib.objectInit).before a0 Z = true) (w3 : (Cond.code Lib.objectInit ⟨#[0xb1]⟩ 1 none).before a0 Z = true) (hd : decode bytes pc = .ok (.invokespecial i, 3)) (hsz : ls.size = ml) (hf : 1 ≤ R.frames) (hW : (st.map fun v => v.category).sum = W) (hl : W + 12 ≤ R.locals) (hp : pc + 3 = pc') :
    OG p l e R s m args below meth c Z SA n0 h (mkF m pc ls (.ref a :: st)) (mkF m pc' ls st) := by
  subst hp
  rintro T locs cl sl ⟨vm0, k0, X, N0, e0, bc, bs, hS, hk, hC, hA⟩
  have C := C.lift hS
  obtain ⟨T', X', e', k⟩ := RoadKit.initO X C.1 C.2.2.1 C.2.2.2.1 w1 w2 w3 e0 (g := mkF m pc ls (.ref a :: st)) rfl (by rw [C.2.2.2.2.1]; exact hsz) rfl (C.d hd) hf (W := W) (by show 2 * 0 + _ ≤ _; omega) hl
  exact ⟨T', locs, ⟨vm0, k0, X', N0, e', bc, bs, hS, hk, hC, hA⟩, k⟩
/-! contracts and calls -/
theorem own_EWc {a1 : Array Value} {t : String} (_ : EW Z a1 EL0) (w : (Cond.stringLink "java/lang/String" 7 t).before a0 Z = true) (ht : ∀ c ∈ t.toList, c.toNat < 256 := by decide) : EW Z a0 EL0 := EW.cons w ht EW.nil
theorem own_backH {vm0 : Vm} {y : MethodName} {bytes : ByteArray} {maxL : Nat} {ret : Option FieldType} {rm : Room} {len W : Nat} {as' : Array Value} {Q : Option Value → Heap → List Loc → Prop} {a1 : Array Value}
    (hM : MetFree l y (head1 [Cond.code y bytes maxL ret] rm) (fun a U => a = as' ∧ Z.Warmed39 U.vm ∧ U.heap = h ∧ CHv Z EL0 U.vm h ∧ ∀ x ∈ SA, Safe Z EL0 U.vm h x ∧ x < h.size) (fun _ _ _ _ _ => True) (fun _ U o U' => ∃ v L, o = .returned v ∧ Q v U'.heap L ∧ CHr Z EL0 U.vm U.heap U'.vm U'.heap ∧ ReturnedEndW U o U' L rm.cells rm.slots))
    (hZ : Z.Warmed39 vm0) (wc : (Cond.code y bytes maxL ret).before a0 Z = true) (wz : (Cond.initialized y.cls).before a0 Z = true) (hf : rm.frames + 1 ≤ R.frames) (hl : W + (maxL + 11) + rm.locals ≤ R.locals) (hEL : EW Z a1 EL0) (H : CHv Z EL0 vm0 h) (hA : ∀ x ∈ SA, Safe Z EL0 vm0 h x ∧ x < h.size) :
    BackS l R p e below (s.setVm vm0) args y len W (fun A a => a = as' ∧ A.U.heap = h ∧ A.cells + rm.cells ≤ R.cells ∧ A.slots + rm.slots ≤ R.slots)
      (fun A _ v B => ∃ L, Q v B.U.heap L ∧ B.locs = A.locs ++ L ∧ B.cells = A.cells + rm.cells ∧ B.slots = A.slots + rm.slots ∧ CHr Z EL0 vm0 h B.U.vm B.U.heap) :=
  BackS.of_freeW (bytes := bytes) (maxL := maxL) (ret := ret) (E := fun _ first o t L k n => k = rm.cells ∧ n = rm.slots ∧ (∃ v, o = .returned v ∧ Q v t.heap L) ∧ CHr Z EL0 first.vm first.heap t.vm t.heap) hM hf hl
    (fun m meth c A a Y hp => have hU : Z.Warmed39 A.U.vm := wtrans (s := s.setVm vm0) hZ Y.warmed
      ⟨by show (Cond.and _ .tt).before a A.U = true; rw [Cond.before_and, mv hU wc]; rfl, mv hU wc, mv hU wz, hp.2.2.1, hp.2.2.2⟩)
    (fun m meth c A a g mk Y hp => ⟨hp.1, wtrans (s := s.setVm vm0) hZ Y.warmed, hp.2.1, (CHv.at Y hZ hEL H).1, fun x hx => ⟨(CHv.at Y hZ hEL H).safe (hA x hx).2 (hA x hx).1, (hA x hx).2⟩⟩) (fun _ _ _ _ _ _ _ _ _ => trivial)
    (fun _ _ _ _ ⟨v, L, h1, h2, h3, h4⟩ => ⟨L, _, _, h4, rfl, rfl, ⟨v, h1, h2⟩, h3⟩)
    (fun m meth c A a g mk v t L k n Y hp _ _ ⟨e1, e2, ⟨v', e3, e4⟩, e5⟩ => by
      cases e3; subst e1 e2
      refine ⟨L, e4, rfl, rfl, rfl, (CHv.at Y hZ hEL H).trans ?_⟩
      rw [← hp.2.1]; exact e5)
def OM (SA : List Addr) (l : Launch) (Z : State) (y : MethodName) (bytes : ByteArray) (ml : Nat) (ret : Option FieldType) (rm : Room) (n0 : Nat) (h : Heap) (as' : Array Value) (Q : Option Value → Heap → Prop) (K N : Nat) : Prop :=
  ∀ ws : List Cond, MetFree l y (head1 (Cond.code y bytes ml ret :: ws) rm) (fun a U => a = as' ∧ Z.Warmed39 U.vm ∧ U.heap = h ∧ CHv Z EL0 U.vm h ∧ ∀ x ∈ SA, Safe Z EL0 U.vm h x ∧ x < h.size) (fun _ _ _ _ _ => True) (fun _ U o U' => ∃ v L, o = .returned v ∧ (Q v U'.heap ∧ Fr n0 L) ∧ CHr Z EL0 U.vm U.heap U'.vm U'.heap ∧ ReturnedEndW U o U' L K N)
theorem OM.of_body (hEL : EW Z a0 EL0) {y : MethodName} {rm : Room} {as' : Array Value} (hy : plainFor y = true) (hef : ∀ m, entryFrame m as' ml = mkF m 0 ls [])
    (body : ∀ (p : Program) (e : Env) (s : State) (m : MethodId) (below : List Frame) (meth : Method) (c : Code), OC p s m meth c Z y.cls y.name bytes ml ret → OW p l e rm s m as' below meth c Z SA n0 Q K N h 0 0 (mkF m 0 ls [])) : OM SA l Z y bytes ml ret rm n0 h as' Q K N := by
  intro ws
  refine MetFree.of_bodySF hy hisR ?_
  intro p e s m args below meth c s₁ Bd hml0 hP hK
  obtain ⟨rfl, hZ, hh, hCH, hSf⟩ := hP
  have e0 : s₁.heap = h := by rw [← hh, Bd.state]; rfl
  have X0 : Stand p l e rm s m args below meth c s₁ [] 0 0 := Stand.of_body Bd
  rw [hef m]
  exact body p e s m below meth c ⟨Bd.exec, Bd.bytes, hZ, findClass_of_methodNamed Bd.named, hml0, Bd.returns, Bd.notSynchronized, (name_of_methodNamed Bd.named Bd.method).1, _, hEL⟩ s₁ [] ⟨s.vm, 0, X0, Fr.nil n0, e0, Nat.zero_le _, Nat.zero_le _, (State.WarmedH.refl s).since 0, Nat.zero_le _, by subst hh; exact CHr.refl hCH, hSf⟩
theorem OW.callS (C : OC p s m meth c Z own nm bytes ml ret) {i : Nat} {y : MethodName} {bytes' : ByteArray} {ml' W : Nat} {ret' r0 : Option FieldType} {rm : Room} {argsL rest : List Value} {ps : List FieldType} {Q' : Option Value → Heap → Prop}
    (w1 : (Cond.methodLink own i y).before a0 Z = true) (w2 : (Cond.static y).before a0 Z = true) (w3 : (Cond.initialized y.cls).before a0 Z = true) (w4 : (Cond.code y bytes' ml' ret').before a0 Z = true) (hy : y.cls ≠ "java/lang/invoke/MethodHandle" ∧ y.cls ≠ "java/lang/invoke/VarHandle")
    (hM : OM SA' l Z y bytes' ml' ret' rm n0 h argsL.toArray Q' rm.cells rm.slots) (hsa : ∀ x ∈ SA', x ∈ SA) (hd : decode bytes pc = .ok (.invokestatic i, 3)) (hpd : parseMethodDescriptor y.desc = some ⟨ps, r0⟩) (hlen : argsL.length = ps.length) (hst : st = argsL.reverse ++ rest) (hsz : ls.size = ml) (hW : (rest.map fun v => v.category).sum = W)
    (hf : rm.frames + 1 ≤ R.frames) (hlo : W + (ml' + 11) + rm.locals ≤ R.locals) (hcl : cl + rm.cells ≤ R.cells) (hsl : sl + rm.slots ≤ R.slots) (hp : pc + 3 = pc')
    (k : ∀ v h', Q' v h' → OW p l e R s m args below meth c Z SA n0 Q K N h' (cl + rm.cells) (sl + rm.slots) (mkF m pc' ls (v.toList ++ rest))) : OW p l e R s m args below meth c Z SA n0 Q K N h cl sl (mkF m pc ls st) := fun T locs ⟨vm0, k0, X, N0, e0, bc, bs, hS, hk, hC, hA⟩ => by
  have C := C.lift hS
  obtain ⟨a1, hw1⟩ := C.2.2.2.2.2.2.2.2
  subst hp
  obtain ⟨v, vm, ⟨T', L', cl', sl'⟩, -, X', hS', hgr, ⟨Lc, ⟨hQ, hL⟩, e1, e2, e3, e4⟩, kk⟩ := callSS X C.1 C.2.2.2.1 (mv C.2.2.1 w1) (mv C.2.2.1 w2) (mv C.2.2.1 w3) (mv C.2.2.1 w4) hy (own_backH (s := s) (W := W) (Q := fun v h L => Q' v h ∧ Fr n0 L) (hM []) C.2.2.1 w4 w3 hf hlo hw1 hC.1 (fun x q => hA x (hsa x q))) (g := mkF m pc ls st) rfl (by rw [C.2.2.2.2.1]; exact hsz) (argsL := argsL) (rest := rest) (lenOf hpd hlen) hst (by show 2 * 0 + _ ≤ _; omega) (C.d hd) (fun _ _ => ⟨rfl, e0, hcl, hsl⟩)
  dsimp only [Pt.U, Pt.locs, Pt.cells, Pt.slots] at X' hS' hgr e1 e2 e3 e4 kk hQ
  subst e1 e2 e3
  obtain ⟨s₂, o, q, r⟩ := k v _ hQ T' _ ⟨T'.vm, T'.heap.size, X', Fr.app N0 hL, rfl, hcl, hsl, hS.trans hS' (Nat.le_trans hk (by rw [← e0]; exact hgr)), Nat.le_refl _, hC.trans e4, fun x q => ⟨e4.safe (hA x q).2 (hA x q).1, Nat.lt_of_lt_of_le (hA x q).2 e4.2.1⟩⟩
  exact ⟨s₂, o, kk.trans q, r⟩
theorem OG.callS (C : OC p s m meth c Z own nm bytes ml ret) {i : Nat} {y : MethodName} {bytes' : ByteArray} {ml' W fr lo : Nat} {ret' r0 : Option FieldType} {argsL rest : List Value} {ps : List FieldType} {w : Value}
    (w1 : (Cond.methodLink own i y).before a0 Z = true) (w2 : (Cond.static y).before a0 Z = true) (w3 : (Cond.initialized y.cls).before a0 Z = true) (w4 : (Cond.code y bytes' ml' ret').before a0 Z = true) (hy : y.cls ≠ "java/lang/invoke/MethodHandle" ∧ y.cls ≠ "java/lang/invoke/VarHandle")
    (hM : OM SA' l Z y bytes' ml' ret' ⟨fr, 0, 0, lo⟩ n0 h argsL.toArray (fun v h' => v = some w ∧ h' = h) 0 0) (hsa : ∀ x ∈ SA', x ∈ SA) (hd : decode bytes pc = .ok (.invokestatic i, 3)) (hpd : parseMethodDescriptor y.desc = some ⟨ps, r0⟩) (hlen : argsL.length = ps.length) (hst : st = argsL.reverse ++ rest) (hsz : ls.size = ml) (hW : (rest.map fun v => v.category).sum = W)
    (hf : fr + 1 ≤ R.frames) (hlo : W + (ml' + 11) + lo ≤ R.locals) (hp : pc + 3 = pc') :
    OG p l e R s m args below meth c Z SA n0 h (mkF m pc ls st) (mkF m pc' ls (w :: rest)) := fun T locs cl sl ⟨vm0, k0, X, N0, e0, bc, bs, hS, hk, hC, hA⟩ => by
  have C := C.lift hS
  obtain ⟨a1, hw1⟩ := C.2.2.2.2.2.2.2.2
  subst hp
  obtain ⟨v, vm, ⟨T', L', cl', sl'⟩, -, X', hS', hgr, ⟨Lc, ⟨⟨rfl, hQ⟩, hL⟩, e1, e2, e3, e4⟩, kk⟩ := callSS X C.1 C.2.2.2.1 (mv C.2.2.1 w1) (mv C.2.2.1 w2) (mv C.2.2.1 w3) (mv C.2.2.1 w4) hy (own_backH (s := s) (W := W) (Q := fun v h' L => (v = some w ∧ h' = h) ∧ Fr n0 L) (hM []) C.2.2.1 w4 w3 hf hlo hw1 hC.1 (fun x q => hA x (hsa x q))) (g := mkF m pc ls st) rfl (by rw [C.2.2.2.2.1]; exact hsz) (argsL := argsL) (rest := rest) (lenOf hpd hlen) hst (by show 2 * 0 + _ ≤ _; omega) (C.d hd) (fun _ _ => ⟨rfl, e0, bc, bs⟩)
  dsimp only [Pt.U, Pt.locs, Pt.cells, Pt.slots] at X' hS' hgr e1 e2 e3 e4 kk hQ
  subst e1 e2 e3
  exact ⟨T', _, ⟨T'.vm, T'.heap.size, X', Fr.app N0 hL, hQ, bc, bs, hS.trans hS' (Nat.le_trans hk (by rw [← e0]; exact hgr)), Nat.le_of_eq (by rw [hQ]), (by rw [← hQ]; exact hC.trans e4), fun x q => ⟨(by rw [← hQ]; exact e4.safe (hA x q).2 (hA x q).1), (hA x q).2⟩⟩, fun t q => kk.trans q⟩
theorem OG.callSV (C : OC p s m meth c Z own nm bytes ml ret) {i : Nat} {y : MethodName} {bytes' : ByteArray} {ml' W fr lo : Nat} {ret' r0 : Option FieldType} {argsL rest : List Value} {ps : List FieldType}
    (w1 : (Cond.methodLink own i y).before a0 Z = true) (w2 : (Cond.static y).before a0 Z = true) (w3 : (Cond.initialized y.cls).before a0 Z = true) (w4 : (Cond.code y bytes' ml' ret').before a0 Z = true) (hy : y.cls ≠ "java/lang/invoke/MethodHandle" ∧ y.cls ≠ "java/lang/invoke/VarHandle")
    (hM : OM SA' l Z y bytes' ml' ret' ⟨fr, 0, 0, lo⟩ n0 h argsL.toArray (fun v h' => v = none ∧ h' = h) 0 0) (hsa : ∀ x ∈ SA', x ∈ SA) (hd : decode bytes pc = .ok (.invokestatic i, 3)) (hpd : parseMethodDescriptor y.desc = some ⟨ps, r0⟩) (hlen : argsL.length = ps.length) (hst : st = argsL.reverse ++ rest) (hsz : ls.size = ml) (hW : (rest.map fun v => v.category).sum = W)
    (hf : fr + 1 ≤ R.frames) (hlo : W + (ml' + 11) + lo ≤ R.locals) (hp : pc + 3 = pc') :
    OG p l e R s m args below meth c Z SA n0 h (mkF m pc ls st) (mkF m pc' ls rest) := fun T locs cl sl ⟨vm0, k0, X, N0, e0, bc, bs, hS, hk, hC, hA⟩ => by
  have C := C.lift hS
  obtain ⟨a1, hw1⟩ := C.2.2.2.2.2.2.2.2
  subst hp
  obtain ⟨v, vm, ⟨T', L', cl', sl'⟩, -, X', hS', hgr, ⟨Lc, ⟨⟨rfl, hQ⟩, hL⟩, e1, e2, e3, e4⟩, kk⟩ := callSS X C.1 C.2.2.2.1 (mv C.2.2.1 w1) (mv C.2.2.1 w2) (mv C.2.2.1 w3) (mv C.2.2.1 w4) hy (own_backH (s := s) (W := W) (Q := fun v h' L => (v = none ∧ h' = h) ∧ Fr n0 L) (hM []) C.2.2.1 w4 w3 hf hlo hw1 hC.1 (fun x q => hA x (hsa x q))) (g := mkF m pc ls st) rfl (by rw [C.2.2.2.2.1]; exact hsz) (argsL := argsL) (rest := rest) (lenOf hpd hlen) hst (by show 2 * 0 + _ ≤ _; omega) (C.d hd) (fun _ _ => ⟨rfl, e0, bc, bs⟩)
  dsimp only [Pt.U, Pt.locs, Pt.cells, Pt.slots] at X' hS' hgr e1 e2 e3 e4 kk hQ
  subst e1 e2 e3
  exact ⟨T', _, ⟨T'.vm, T'.heap.size, X', Fr.app N0 hL, hQ, bc, bs, hS.trans hS' (Nat.le_trans hk (by rw [← e0]; exact hgr)), Nat.le_of_eq (by rw [hQ]), (by rw [← hQ]; exact hC.trans e4), fun x q => ⟨(by rw [← hQ]; exact e4.safe (hA x q).2 (hA x q).1), (hA x q).2⟩⟩, fun t q => kk.trans q⟩
theorem OW.init (C : OC p s m meth c Z own nm bytes ml ret) {i : Nat} {y : MethodName} {bytes' : ByteArray} {ml' W : Nat} {r0 : Option FieldType} {rm : Room} {argsL rest : List Value} {ps : List FieldType} {Q' : Option Value → Heap → Prop} {a : Addr}
    (w1 : (Cond.methodLink own i y).before a0 Z = true) (w2 : (Cond.instanceMethod y).before a0 Z = true) (w3 : (Cond.initialized y.cls).before a0 Z = true) (w4 : (Cond.code y bytes' ml' none).before a0 Z = true) (hyi : y.name = "<init>") (hy : y.cls ≠ "java/lang/invoke/MethodHandle" ∧ y.cls ≠ "java/lang/invoke/VarHandle")
    (hM : OM SA' l Z y bytes' ml' none rm n0 h (.ref a :: argsL).toArray Q' rm.cells rm.slots) (hsa : ∀ x ∈ SA', x ∈ SA) (hd : decode bytes pc = .ok (.invokespecial i, 3)) (hpd : parseMethodDescriptor y.desc = some ⟨ps, r0⟩) (hlen : argsL.length = ps.length) (hst : st = argsL.reverse ++ .ref a :: rest) (hsz : ls.size = ml) (hW : (rest.map fun v => v.category).sum = W)
    (hf : rm.frames + 1 ≤ R.frames) (hlo : W + (ml' + 11) + rm.locals ≤ R.locals) (hcl : cl + rm.cells ≤ R.cells) (hsl : sl + rm.slots ≤ R.slots) (hp : pc + 3 = pc')
    (k : ∀ v h', Q' v h' → OW p l e R s m args below meth c Z SA n0 Q K N h' (cl + rm.cells) (sl + rm.slots) (mkF m pc' ls (v.toList ++ rest))) : OW p l e R s m args below meth c Z SA n0 Q K N h cl sl (mkF m pc ls st) := fun T locs ⟨vm0, k0, X, N0, e0, bc, bs, hS, hk, hC, hA⟩ => by
  have C := C.lift hS
  obtain ⟨a1, hw1⟩ := C.2.2.2.2.2.2.2.2
  subst hp
  obtain ⟨v, vm, ⟨T', L', cl', sl'⟩, -, X', hS', hgr, ⟨Lc, ⟨hQ, hL⟩, e1, e2, e3, e4⟩, kk⟩ := X.specialBackS C.1 hyi C.2.2.2.1 (mv C.2.2.1 w1) (mv C.2.2.1 w2) (mv C.2.2.1 w4) hy (own_backH (s := s) (W := W) (Q := fun v h L => Q' v h ∧ Fr n0 L) (hM []) C.2.2.1 w4 w3 hf hlo hw1 hC.1 (fun x q => hA x (hsa x q))) (g := mkF m pc ls st) rfl (by rw [C.2.2.2.2.1]; exact hsz) (Steps.refl _) (a := a) (argsL := argsL) (rest := rest) (lenOf hpd hlen) hst (by show 2 * 0 + _ ≤ _; omega) (C.d hd) (fun _ _ => ⟨rfl, e0, hcl, hsl⟩)
  dsimp only [Pt.U, Pt.locs, Pt.cells, Pt.slots] at X' hS' hgr e1 e2 e3 e4 kk hQ
  subst e1 e2 e3
  obtain ⟨s₂, o, q, r⟩ := k v _ hQ T' _ ⟨T'.vm, T'.heap.size, X', Fr.app N0 hL, rfl, hcl, hsl, hS.trans hS' (Nat.le_trans hk (by rw [← e0]; exact hgr)), Nat.le_refl _, hC.trans e4, fun x q => ⟨e4.safe (hA x q).2 (hA x q).1, Nat.lt_of_lt_of_le (hA x q).2 e4.2.1⟩⟩
  exact ⟨s₂, o, kk.trans q, r⟩
theorem OG.init (C : OC p s m meth c Z own nm bytes ml ret) {i : Nat} {y : MethodName} {bytes' : ByteArray} {ml' W fr lo : Nat} {r0 : Option FieldType} {argsL rest : List Value} {ps : List FieldType} {a : Addr}
    (w1 : (Cond.methodLink own i y).before a0 Z = true) (w2 : (Cond.instanceMethod y).before a0 Z = true) (w3 : (Cond.initialized y.cls).before a0 Z = true) (w4 : (Cond.code y bytes' ml' none).before a0 Z = true) (hyi : y.name = "<init>") (hy : y.cls ≠ "java/lang/invoke/MethodHandle" ∧ y.cls ≠ "java/lang/invoke/VarHandle")
    (hM : OM SA' l Z y bytes' ml' none ⟨fr, 0, 0, lo⟩ n0 h (.ref a :: argsL).toArray (fun v h' => v = none ∧ h' = h) 0 0) (hsa : ∀ x ∈ SA', x ∈ SA) (hd : decode bytes pc = .ok (.invokespecial i, 3)) (hpd : parseMethodDescriptor y.desc = some ⟨ps, r0⟩) (hlen : argsL.length = ps.length) (hst : st = argsL.reverse ++ .ref a :: rest) (hsz : ls.size = ml) (hW : (rest.map fun v => v.category).sum = W)
    (hf : fr + 1 ≤ R.frames) (hlo : W + (ml' + 11) + lo ≤ R.locals) (hp : pc + 3 = pc') :
    OG p l e R s m args below meth c Z SA n0 h (mkF m pc ls st) (mkF m pc' ls rest) := fun T locs cl sl ⟨vm0, k0, X, N0, e0, bc, bs, hS, hk, hC, hA⟩ => by
  have C := C.lift hS
  obtain ⟨a1, hw1⟩ := C.2.2.2.2.2.2.2.2
  subst hp
  obtain ⟨v, vm, ⟨T', L', cl', sl'⟩, -, X', hS', hgr, ⟨Lc, ⟨⟨rfl, hQ⟩, hL⟩, e1, e2, e3, e4⟩, kk⟩ := X.specialBackS C.1 hyi C.2.2.2.1 (mv C.2.2.1 w1) (mv C.2.2.1 w2) (mv C.2.2.1 w4) hy (own_backH (s := s) (W := W) (Q := fun v h' L => (v = none ∧ h' = h) ∧ Fr n0 L) (hM []) C.2.2.1 w4 w3 hf hlo hw1 hC.1 (fun x q => hA x (hsa x q))) (g := mkF m pc ls st) rfl (by rw [C.2.2.2.2.1]; exact hsz) (Steps.refl _) (a := a) (argsL := argsL) (rest := rest) (lenOf hpd hlen) hst (by show 2 * 0 + _ ≤ _; omega) (C.d hd) (fun _ _ => ⟨rfl, e0, bc, bs⟩)
  dsimp only [Pt.U, Pt.locs, Pt.cells, Pt.slots] at X' hS' hgr e1 e2 e3 e4 kk hQ
  subst e1 e2 e3
  exact ⟨T', _, ⟨T'.vm, T'.heap.size, X', Fr.app N0 hL, hQ, bc, bs, hS.trans hS' (Nat.le_trans hk (by rw [← e0]; exact hgr)), Nat.le_of_eq (by rw [hQ]), (by rw [← hQ]; exact hC.trans e4), fun x q => ⟨(by rw [← hQ]; exact e4.safe (hA x q).2 (hA x q).1), (hA x q).2⟩⟩, fun t q => kk.trans q⟩
theorem OW.callV (C : OC p s m meth c Z own nm bytes ml ret) {i : Nat} {y : MethodName} {bytes' : ByteArray} {ml' W : Nat} {ret' r0 : Option FieldType} {rm : Room} {argsL rest : List Value} {ps : List FieldType} {Q' : Option Value → Heap → Prop} {a : Addr} {Cl : String}
    (w1 : (Cond.methodLink own i y).before a0 Z = true) (wd : (Cond.declares y).before a0 Z = true) (ws : (Cond.selects Cl y y).before a0 Z = true) (w2 : (Cond.instanceMethod y).before a0 Z = true) (w3 : (Cond.initialized y.cls).before a0 Z = true) (w4 : (Cond.code y bytes' ml' ret').before a0 Z = true) (hy : y.cls ≠ "java/lang/invoke/MethodHandle" ∧ y.cls ≠ "java/lang/invoke/VarHandle") (E : Exa Z h a Cl)
    (hM : OM SA' l Z y bytes' ml' ret' rm n0 h (.ref a :: argsL).toArray Q' rm.cells rm.slots) (hsa : ∀ x ∈ SA', x ∈ SA) (hd : decode bytes pc = .ok (.invokevirtual i, 3)) (hpd : parseMethodDescriptor y.desc = some ⟨ps, r0⟩) (hlen : argsL.length = ps.length) (hst : st = argsL.reverse ++ .ref a :: rest) (hsz : ls.size = ml) (hW : (rest.map fun v => v.category).sum = W)
    (hf : rm.frames + 1 ≤ R.frames) (hlo : W + (ml' + 11) + rm.locals ≤ R.locals) (hcl : cl + rm.cells ≤ R.cells) (hsl : sl + rm.slots ≤ R.slots) (hp : pc + 3 = pc')
    (k : ∀ v h', Q' v h' → OW p l e R s m args below meth c Z SA n0 Q K N h' (cl + rm.cells) (sl + rm.slots) (mkF m pc' ls (v.toList ++ rest))) : OW p l e R s m args below meth c Z SA n0 Q K N h cl sl (mkF m pc ls st) := fun T locs ⟨vm0, k0, X, N0, e0, bc, bs, hS, hk, hC, hA⟩ => by
  have C := C.lift hS
  obtain ⟨a1, hw1⟩ := C.2.2.2.2.2.2.2.2
  subst hp
  obtain ⟨cq, kq, qa, qb, qc⟩ := isOf C.2.2.1 e0 E
  obtain ⟨v, vm, ⟨T', L', cl', sl'⟩, -, X', hS', hgr, ⟨Lc, ⟨hQ, hL⟩, e1, e2, e3, e4⟩, kk⟩ := X.virtualBackS C.1 C.2.2.2.1 (mv C.2.2.1 w1) (mv C.2.2.1 wd) (notFace_of_selects (args := #[]) (mv C.2.2.1 ws)) (mv C.2.2.1 ws) (mv C.2.2.1 w2) hy (own_backH (s := s) (W := W) (Q := fun v h L => Q' v h ∧ Fr n0 L) (hM []) C.2.2.1 w4 w3 hf hlo hw1 hC.1 (fun x q => hA x (hsa x q))) qa qc (g := mkF m pc ls st) rfl (by rw [C.2.2.2.2.1]; exact hsz) (Steps.refl _) (argsL := argsL) (rest := rest) (lenOf hpd hlen) hst (by show 2 * 0 + _ ≤ _; omega) (C.d hd) (fun _ _ => ⟨rfl, e0, hcl, hsl⟩)
  dsimp only [Pt.U, Pt.locs, Pt.cells, Pt.slots] at X' hS' hgr e1 e2 e3 e4 kk hQ
  subst e1 e2 e3
  obtain ⟨s₂, o, q, r⟩ := k v _ hQ T' _ ⟨T'.vm, T'.heap.size, X', Fr.app N0 hL, rfl, hcl, hsl, hS.trans hS' (Nat.le_trans hk (by rw [← e0]; exact hgr)), Nat.le_refl _, hC.trans e4, fun x q => ⟨e4.safe (hA x q).2 (hA x q).1, Nat.lt_of_lt_of_le (hA x q).2 e4.2.1⟩⟩
  exact ⟨s₂, o, kk.trans q, r⟩
theorem OG.callV (C : OC p s m meth c Z own nm bytes ml ret) {i : Nat} {y : MethodName} {bytes' : ByteArray} {ml' W fr lo : Nat} {ret' r0 : Option FieldType} {argsL rest : List Value} {ps : List FieldType} {w : Value} {a : Addr} {Cl : String}
    (w1 : (Cond.methodLink own i y).before a0 Z = true) (wd : (Cond.declares y).before a0 Z = true) (ws : (Cond.selects Cl y y).before a0 Z = true) (w2 : (Cond.instanceMethod y).before a0 Z = true) (w3 : (Cond.initialized y.cls).before a0 Z = true) (w4 : (Cond.code y bytes' ml' ret').before a0 Z = true) (hy : y.cls ≠ "java/lang/invoke/MethodHandle" ∧ y.cls ≠ "java/lang/invoke/VarHandle") (E : Exa Z h a Cl)
    (hM : OM SA' l Z y bytes' ml' ret' ⟨fr, 0, 0, lo⟩ n0 h (.ref a :: argsL).toArray (fun v h' => v = some w ∧ h' = h) 0 0) (hsa : ∀ x ∈ SA', x ∈ SA) (hd : decode bytes pc = .ok (.invokevirtual i, 3)) (hpd : parseMethodDescriptor y.desc = some ⟨ps, r0⟩) (hlen : argsL.length = ps.length) (hst : st = argsL.reverse ++ .ref a :: rest) (hsz : ls.size = ml) (hW : (rest.map fun v => v.category).sum = W)
    (hf : fr + 1 ≤ R.frames) (hlo : W + (ml' + 11) + lo ≤ R.locals) (hp : pc + 3 = pc') :
    OG p l e R s m args below meth c Z SA n0 h (mkF m pc ls st) (mkF m pc' ls (w :: rest)) := fun T locs cl sl ⟨vm0, k0, X, N0, e0, bc, bs, hS, hk, hC, hA⟩ => by
  have C := C.lift hS
  obtain ⟨a1, hw1⟩ := C.2.2.2.2.2.2.2.2
  subst hp
  obtain ⟨cq, kq, qa, qb, qc⟩ := isOf C.2.2.1 e0 E
  obtain ⟨v, vm, ⟨T', L', cl', sl'⟩, -, X', hS', hgr, ⟨Lc, ⟨⟨rfl, hQ⟩, hL⟩, e1, e2, e3, e4⟩, kk⟩ := X.virtualBackS C.1 C.2.2.2.1 (mv C.2.2.1 w1) (mv C.2.2.1 wd) (notFace_of_selects (args := #[]) (mv C.2.2.1 ws)) (mv C.2.2.1 ws) (mv C.2.2.1 w2) hy (own_backH (s := s) (W := W) (Q := fun v h' L => (v = some w ∧ h' = h) ∧ Fr n0 L) (hM []) C.2.2.1 w4 w3 hf hlo hw1 hC.1 (fun x q => hA x (hsa x q))) qa qc (g := mkF m pc ls st) rfl (by rw [C.2.2.2.2.1]; exact hsz) (Steps.refl _) (argsL := argsL) (rest := rest) (lenOf hpd hlen) hst (by show 2 * 0 + _ ≤ _; omega) (C.d hd) (fun _ _ => ⟨rfl, e0, bc, bs⟩)
  dsimp only [Pt.U, Pt.locs, Pt.cells, Pt.slots] at X' hS' hgr e1 e2 e3 e4 kk hQ
  subst e1 e2 e3
  exact ⟨T', _, ⟨T'.vm, T'.heap.size, X', Fr.app N0 hL, hQ, bc, bs, hS.trans hS' (Nat.le_trans hk (by rw [← e0]; exact hgr)), Nat.le_of_eq (by rw [hQ]), (by rw [← hQ]; exact hC.trans e4), fun x q => ⟨(by rw [← hQ]; exact e4.safe (hA x q).2 (hA x q).1), (hA x q).2⟩⟩, fun t q => kk.trans q⟩
theorem OG.callI (C : OC p s m meth c Z own nm bytes ml ret) {i cnt : Nat} {xi y : MethodName} {bytes' : ByteArray} {ml' W fr lo : Nat} {ret' r0 : Option FieldType} {argsL rest : List Value} {ps : List FieldType} {w : Value} {a : Addr} {Cl : String}
    (w1 : (Cond.methodLink own i xi).before a0 Z = true) (wd : (Cond.declares xi).before a0 Z = true) (wf : (Cond.interfaceMethod xi.cls xi.cls xi.name xi.desc).before a0 Z = true) (ws : (Cond.selects Cl xi y).before a0 Z = true) (w2 : (Cond.instanceMethod y).before a0 Z = true) (wp : (Cond.publicMethod y).before a0 Z = true) (wu : (Cond.unhidden Cl xi.name xi.desc).before a0 Z = true) (wc : (Cond.castable Cl xi.cls).before a0 Z = true)
    (w3 : (Cond.initialized y.cls).before a0 Z = true) (w4 : (Cond.code y bytes' ml' ret').before a0 Z = true) (hfa : ((Cond.interfaceMethod xi.cls xi.cls xi.name xi.desc).onTables && (Cond.interfaceMethod xi.cls xi.cls xi.name xi.desc).keepsFace) = true) (hy : xi.cls ≠ "java/lang/invoke/MethodHandle" ∧ xi.cls ≠ "java/lang/invoke/VarHandle") (E : Exa Z h a Cl)
    (hM : OM SA' l Z y bytes' ml' ret' ⟨fr, 0, 0, lo⟩ n0 h (.ref a :: argsL).toArray (fun v h' => v = some w ∧ h' = h) 0 0) (hsa : ∀ x ∈ SA', x ∈ SA) (hd : decode bytes pc = .ok (.invokeinterface i cnt, 5)) (hpd : parseMethodDescriptor xi.desc = some ⟨ps, r0⟩) (hlen : argsL.length = ps.length) (hst : st = argsL.reverse ++ .ref a :: rest) (hsz : ls.size = ml) (hW : (rest.map fun v => v.category).sum = W)
    (hf : fr + 1 ≤ R.frames) (hlo : W + (ml' + 11) + lo ≤ R.locals) (hp : pc + 5 = pc') :
    OG p l e R s m args below meth c Z SA n0 h (mkF m pc ls st) (mkF m pc' ls (w :: rest)) := fun T locs cl sl ⟨vm0, k0, X, N0, e0, bc, bs, hS, hk, hC, hA⟩ => by
  have C := C.lift hS
  obtain ⟨a1, hw1⟩ := C.2.2.2.2.2.2.2.2
  subst hp
  obtain ⟨cq, kq, qa, qb, qc⟩ := isOf C.2.2.1 e0 E
  obtain ⟨v, vm, ⟨T', L', cl', sl'⟩, -, X', hS', hgr, ⟨Lc, ⟨⟨rfl, hQ⟩, hL⟩, e1, e2, e3, e4⟩, kk⟩ := X.interfaceBackS C.1 C.2.2.2.1 (mv C.2.2.1 w1) (mv C.2.2.1 wd) (mv C.2.2.1 wf hfa) (mv C.2.2.1 ws) (mv C.2.2.1 w2) (mv C.2.2.1 wp) (mv C.2.2.1 wu) (mv C.2.2.1 wc) hy (own_backH (s := s) (W := W) (Q := fun v h' L => (v = some w ∧ h' = h) ∧ Fr n0 L) (hM []) C.2.2.1 w4 w3 hf hlo hw1 hC.1 (fun x q => hA x (hsa x q))) qa qb qc (g := mkF m pc ls st) rfl (by rw [C.2.2.2.2.1]; exact hsz) (Steps.refl _) (argsL := argsL) (rest := rest) (lenOf hpd hlen) hst (by show 2 * 0 + _ ≤ _; omega) (C.d hd) (fun _ _ => ⟨rfl, e0, bc, bs⟩)
  dsimp only [Pt.U, Pt.locs, Pt.cells, Pt.slots] at X' hS' hgr e1 e2 e3 e4 kk hQ
  subst e1 e2 e3
  exact ⟨T', _, ⟨T'.vm, T'.heap.size, X', Fr.app N0 hL, hQ, bc, bs, hS.trans hS' (Nat.le_trans hk (by rw [← e0]; exact hgr)), Nat.le_of_eq (by rw [hQ]), (by rw [← hQ]; exact hC.trans e4), fun x q => ⟨(by rw [← hQ]; exact e4.safe (hA x q).2 (hA x q).1), (hA x q).2⟩⟩, fun t q => kk.trans q⟩
theorem own_nb (c : Int32) : nar .byte c.toInt8.toInt32 = c.toInt8.toInt32 := by
  show c.toInt8.toInt32.toInt8.toInt32 = _
  have q := c_i2b c
  have q2 := c_i2b c.toInt8.toInt32
  apply Int32.toInt_inj.mp
  omega
theorem Exa.pl {h : Heap} {a : Addr} {C : String} (F : Exa Z h a C) : ∃ c : Cell, h[a]? = some c ∧ c.vm.isStatics = false := by obtain ⟨c, _, h1, -, -, h4, -⟩ := F; exact ⟨c, h1, h4⟩
theorem OA.pl {a : Addr} {ty : FieldType} {vs : List Value} (F : OA Z h a ty vs) : ∃ c : Cell, h[a]? = some c ∧ c.vm.isStatics = false := by obtain ⟨c, A, -⟩ := F; exact ⟨c, A.1, A.plain⟩
theorem OPl.ext {h h' : Heap} {a : Addr} (F : ∃ c : Cell, h[a]? = some c ∧ c.vm.isStatics = false) (E : Ext h h') : ∃ c : Cell, h'[a]? = some c ∧ c.vm.isStatics = false := by obtain ⟨c, h1, h2⟩ := F; exact ⟨c, E.2 _ _ h1, h2⟩
theorem OPl.wr {h h' : Heap} {a b : Addr} {k : Nat} {v : Value} (F : ∃ c : Cell, h[a]? = some c ∧ c.vm.isStatics = false) (W : Wr h h' b k v) : ∃ c : Cell, h'[a]? = some c ∧ c.vm.isStatics = false := by
  obtain ⟨c, h1, h2⟩ := F
  obtain ⟨c', e1, -, e3, -⟩ := wr_at W h1
  exact ⟨c', e1, by rw [e3]; exact h2⟩
theorem OPl.keep {h h' : Heap} {a : Addr} {ws : List Addr} (F : ∃ c : Cell, h[a]? = some c ∧ c.vm.isStatics = false) (K : Keep h h' ws) : ∃ c : Cell, h'[a]? = some c ∧ c.vm.isStatics = false := by
  obtain ⟨c, h1, h2⟩ := F
  obtain ⟨c', e1, -, e3, -⟩ := K.2.2 _ _ h1
  exact ⟨c', e1, by rw [e3]; exact h2⟩
theorem Sta.kp {h h' : Heap} {C n d : String} {v : Value} {ws : List Addr} (F : Sta Z h C n d v) (K : Keep h h' ws) (q : ∀ a ∈ ws, ∃ c : Cell, h[a]? = some c ∧ c.vm.isStatics = false) : Sta Z h' C n d v := by
  obtain ⟨cf, i, k, f, st, cell, h1, h2, h3, h4, h5, h6, h7⟩ := F
  refine ⟨cf, i, k, f, st, cell, h1, h2, h3, h4, K.2.1 st cell h5 (fun hm => ?_), h6, h7⟩
  obtain ⟨c, e1, e2⟩ := q st hm
  cases h5.symm.trans e1
  rw [h6] at e2; cases e2
theorem OW.join {P : Value → Heap → Prop} {f : Value → JFrame} {cl' sl' : Nat} (b : (∀ v h', P v h' → OW p l e R s m args below meth c Z SA n0 Q K N h' cl' sl' (f v)) → OW p l e R s m args below meth c Z SA n0 Q K N h cl sl g) (k : ∀ v h', P v h' → OW p l e R s m args below meth c Z SA n0 Q K N h' cl' sl' (f v)) : OW p l e R s m args below meth c Z SA n0 Q K N h cl sl g := b k
theorem own_nr {v : Value} {t : FieldType} (q : v.isRef = true) (ht : t.isReference = true) : narrow t v = v ∧ fits t v = true := by
  rcases ref_cases q with rfl | ⟨_, rfl⟩ <;> cases t <;> first | (cases ht; done) | exact ⟨rfl, rfl⟩
/-! what a branch over two longs asks -/
theorem tltL {x y : Int64} (q : x < y) : ifCond.holds .lt (lcmpW x y) = true ∧ ifCond.holds .ge (lcmpW x y) = false ∧ ifCond.holds .gt (lcmpW y x) = true ∧ ifCond.holds .le (lcmpW y x) = false := by
  have a := (lw_lt x y).mpr q
  have b := (lw_gt y x).mpr q
  rw [if0, if0, if0, if0]; exact ⟨(tlt a).1, (tlt a).2.1, (tlt b).2.2.1, (tlt b).2.2.2⟩
theorem fltL {x y : Int64} (q : ¬ x < y) : ifCond.holds .lt (lcmpW x y) = false ∧ ifCond.holds .ge (lcmpW x y) = true ∧ ifCond.holds .gt (lcmpW y x) = false ∧ ifCond.holds .le (lcmpW y x) = true := by
  have a := fun z => q ((lw_lt x y).mp z)
  have b := fun z => q ((lw_gt y x).mp z)
  rw [if0, if0, if0, if0]; exact ⟨(flt a).1, (flt a).2.1, (flt b).2.2.1, (flt b).2.2.2⟩
theorem teqL {x y : Int64} (q : x = y) : ifCond.holds .eq (lcmpW x y) = true ∧ ifCond.holds .ne (lcmpW x y) = false := by
  have a := (lw_eq x y).mpr q
  rw [if0, if0]; exact teq a
theorem feqL {x y : Int64} (q : ¬ x = y) : ifCond.holds .eq (lcmpW x y) = false ∧ ifCond.holds .ne (lcmpW x y) = true := by
  have a := fun z => q ((lw_eq x y).mp z)
  rw [if0, if0]; exact feq a
theorem tlt0 {x y : Int32} (q : x < y) : if_icmp.holds .lt x y = true ∧ if_icmp.holds .ge x y = false ∧ if_icmp.holds .gt y x = true ∧ if_icmp.holds .le y x = false := tlt q
theorem OW.ldcH (C : OC p s m meth c Z own nm bytes ml ret) {i : Nat} (hown : own = "java/lang/String") (hi : i = 7) (w : (Cond.stringLink own i "").before a0 Z = true) (wS : ∀ a ∈ Bundle.stringAtoms, a.before a0 Z = true) (hc : cl + 2 ≤ R.cells) (hl : sl + 4 ≤ R.slots) (hd : decode bytes pc = .ok (.ldc i, 2)) (hp : pc + 2 = pc')
    (k : ∀ (a b : Addr) h', Ext h h' → Exa Z h' a "java/lang/String" → Fld Z h' a "java/lang/String" "coder" "B" (.int 0) → Fld Z h' a "java/lang/String" "value" "[B" (.ref b) → OA Z h' b .byte [] → (∀ x ∈ SA, x ≠ a ∧ x ≠ b) → OW p l e R s m args below meth c Z SA n0 Q K N h' (cl + 2) (sl + 4) (mkF m pc' ls (.ref a :: st))) : OW p l e R s m args below meth c Z SA n0 Q K N h cl sl (mkF m pc ls st) := fun T locs ⟨vm0, k0, X, N0, e0, bc, bs, hS, hk, hC, hA⟩ => by
  subst hp hown hi
  have C' := C.lift hS
  obtain ⟨a1, hw1⟩ := C.2.2.2.2.2.2.2.2
  obtain ⟨a, T', h', k1, b, kc, X', e', E, hS', hk', -, -, f1, f2, f3, f4, -, -, f5, -, f6, st'⟩ := ldcCH X C.1 C'.2.2.1 C'.2.2.2.1 (a0 := a0) w wS e0 hS hk (EL := EL0) (own_EWc hw1 w) (List.mem_singleton.mpr rfl) hC.1 (vs := []) (z := 0) ⟨fun c hc => (by simp at hc), rfl⟩ (by decide) (by decide) (g := mkF m pc ls st) rfl (C.d hd) (n := 0) (by decide) (by decide) hc hl
  have A : OA Z h' b .byte [] := by
    obtain ⟨cc, A, -, r2, -⟩ := f4
    refine ⟨cc, A, ?_⟩
    have : cc.slots.size = 0 := by rw [r2]; decide
    simpa using this
  have hA' : ∀ x ∈ SA, Safe Z EL0 T'.vm h' x ∧ x < h'.size := fun x q => ⟨f5.safe (hA x q).2 (hA x q).1, Nat.lt_of_lt_of_le (hA x q).2 E.1⟩
  obtain ⟨s₂, o, q, r⟩ := k a b h' E f1 f2 f3 A (fun x q => f6 x (hA' x q).1) T' locs ⟨T'.vm, k1, X', N0, e', hc, hl, hS', hk', hC.trans f5, hA'⟩
  exact ⟨s₂, o, st' _ q, r⟩
theorem allN : ∀ x ∈ ([] : List Addr), x ∈ SA := fun _ q => absurd q List.not_mem_nil
theorem allC {a : Addr} {i : Nat} (q : SA[i]? = some a) (r : ∀ x ∈ SA', x ∈ SA) : ∀ x ∈ a :: SA', x ∈ SA := fun x k => by
  rcases List.mem_cons.mp k with rfl | k
  · exact List.mem_of_getElem? q
  · exact r _ k
theorem own_sfa {a : Addr} {ty : FieldType} {vs : List Value} {vm : Vm} (hal : Z.vm.Alike vm) (F : OA Z h a ty vs) (ht : ty ≠ .byte) : Safe Z EL0 vm h a := by obtain ⟨cc, A, -⟩ := F; exact Safe.arr hal A ht
end Own
end Jvm.RoadKit
namespace Jvm.Pilot.@@N@@
open Jvm Jvm.ClassFile Sem Op Lib Jvm.Free Jvm.Stand Jvm.LawKit Jvm.RoadKit Bundle Jvm.Pilot.@@N@@.Jvm.D
abbrev HW (a0 : Array Value) (Z : State) : Prop := ∀ d ∈ tables_1, d.before a0 Z = true
theorem w0 {a0 : Array Value} {Z : State} (hw : HW a0 Z) : (Jvm.Cond.methodLink "com/example/quittance/quittance/AuditEntryWithInvoicePinLaw" (7 : Nat) ({ cls := "com/example/quittance/quittance/AuditEntryWithInvoicePinLaw", name := "action", desc := "(I)Lcom/example/quittance/quittance/AuditEntry$Action;" } : Jvm.MethodName)).before a0 Z = true := hw _ (List.mem_of_getElem? (i := 0) rfl)
theorem w1 {a0 : Array Value} {Z : State} (hw : HW a0 Z) : (Jvm.Cond.static ({ cls := "com/example/quittance/quittance/AuditEntryWithInvoicePinLaw", name := "action", desc := "(I)Lcom/example/quittance/quittance/AuditEntry$Action;" } : Jvm.MethodName)).before a0 Z = true := hw _ (List.mem_of_getElem? (i := 1) rfl)
theorem w2 {a0 : Array Value} {Z : State} (hw : HW a0 Z) : (Jvm.Cond.initialized "com/example/quittance/quittance/AuditEntryWithInvoicePinLaw").before a0 Z = true := hw _ (List.mem_of_getElem? (i := 2) rfl)
theorem w3 {a0 : Array Value} {Z : State} (hw : HW a0 Z) : (Jvm.Cond.code ({ cls := "com/example/quittance/quittance/AuditEntryWithInvoicePinLaw", name := "action", desc := "(I)Lcom/example/quittance/quittance/AuditEntry$Action;" } : Jvm.MethodName) method_6_code (2 : Nat) (Option.some (Jvm.ClassFile.FieldType.object "com/example/quittance/quittance/AuditEntry$Action"))).before a0 Z = true := hw _ (List.mem_of_getElem? (i := 3) rfl)
theorem w4 {a0 : Array Value} {Z : State} (hw : HW a0 Z) : (Jvm.Cond.constant "com/example/quittance/quittance/AuditEntryWithInvoicePinLaw" (69 : Nat) (2147483647 : Int32)).before a0 Z = true := hw _ (List.mem_of_getElem? (i := 4) rfl)
theorem w5 {a0 : Array Value} {Z : State} (hw : HW a0 Z) : (Jvm.Cond.fieldLink "com/example/quittance/quittance/AuditEntryWithInvoicePinLaw" (70 : Nat) "com/example/quittance/quittance/AuditEntry$Action" "REASON_CODE_SET" "Lcom/example/quittance/quittance/AuditEntry$Action;").before a0 Z = true := hw _ (List.mem_of_getElem? (i := 5) rfl)
theorem w6 {a0 : Array Value} {Z : State} (hw : HW a0 Z) : (Jvm.Cond.initialized "com/example/quittance/quittance/AuditEntry$Action").before a0 Z = true := hw _ (List.mem_of_getElem? (i := 6) rfl)
theorem w7 {a0 : Array Value} {Z : State} (hw : HW a0 Z) : (Jvm.Cond.laysStatic "com/example/quittance/quittance/AuditEntry$Action" "REASON_CODE_SET" "Lcom/example/quittance/quittance/AuditEntry$Action;").before a0 Z = true := hw _ (List.mem_of_getElem? (i := 7) rfl)
theorem w8 {a0 : Array Value} {Z : State} (hw : HW a0 Z) : (Jvm.Cond.methodLink "com/example/quittance/quittance/AuditEntryWithInvoicePinLaw" (13 : Nat) ({ cls := "com/example/quittance/quittance/AuditEntryWithInvoicePinLaw", name := "str", desc := "(IZ)Ljava/lang/String;" } : Jvm.MethodName)).before a0 Z = true := hw _ (List.mem_of_getElem? (i := 8) rfl)
theorem w9 {a0 : Array Value} {Z : State} (hw : HW a0 Z) : (Jvm.Cond.static ({ cls := "com/example/quittance/quittance/AuditEntryWithInvoicePinLaw", name := "str", desc := "(IZ)Ljava/lang/String;" } : Jvm.MethodName)).before a0 Z = true := hw _ (List.mem_of_getElem? (i := 9) rfl)
theorem w10 {a0 : Array Value} {Z : State} (hw : HW a0 Z) : (Jvm.Cond.code ({ cls := "com/example/quittance/quittance/AuditEntryWithInvoicePinLaw", name := "str", desc := "(IZ)Ljava/lang/String;" } : Jvm.MethodName) method_5_code (6 : Nat) (Option.some (Jvm.ClassFile.FieldType.object "java/lang/String"))).before a0 Z = true := hw _ (List.mem_of_getElem? (i := 10) rfl)
theorem w11 {a0 : Array Value} {Z : State} (hw : HW a0 Z) : (Jvm.Cond.classLink "com/example/quittance/quittance/AuditEntryWithInvoicePinLaw" (57 : Nat) "java/lang/String").before a0 Z = true := hw _ (List.mem_of_getElem? (i := 11) rfl)
theorem w12 {a0 : Array Value} {Z : State} (hw : HW a0 Z) : (Jvm.Cond.instantiable "java/lang/String" (4 : Nat)).before a0 Z = true := hw _ (List.mem_of_getElem? (i := 12) rfl)
theorem w13 {a0 : Array Value} {Z : State} (hw : HW a0 Z) : (Jvm.Cond.initialized "java/lang/String").before a0 Z = true := hw _ (List.mem_of_getElem? (i := 13) rfl)
theorem w14 {a0 : Array Value} {Z : State} (hw : HW a0 Z) : (Jvm.Cond.arrayClass Jvm.ClassFile.FieldType.char).before a0 Z = true := hw _ (List.mem_of_getElem? (i := 14) rfl)
theorem w15 {a0 : Array Value} {Z : State} (hw : HW a0 Z) : (Jvm.Cond.methodLink "com/example/quittance/quittance/AuditEntryWithInvoicePinLaw" (66 : Nat) ({ cls := "java/lang/String", name := "<init>", desc := "([C)V" } : Jvm.MethodName)).before a0 Z = true := hw _ (List.mem_of_getElem? (i := 15) rfl)
theorem w16 {a0 : Array Value} {Z : State} (hw : HW a0 Z) : (Jvm.Cond.instanceMethod ({ cls := "java/lang/String", name := "<init>", desc := "([C)V" } : Jvm.MethodName)).before a0 Z = true := hw _ (List.mem_of_getElem? (i := 16) rfl)
theorem w17 {a0 : Array Value} {Z : State} (hw : HW a0 Z) : (Jvm.Cond.code ({ cls := "java/lang/String", name := "<init>", desc := "([C)V" } : Jvm.MethodName) jdk_42_method_3_code (2 : Nat) (Option.none : Option Jvm.ClassFile.FieldType)).before a0 Z = true := hw _ (List.mem_of_getElem? (i := 17) rfl)
theorem w18 {a0 : Array Value} {Z : State} (hw : HW a0 Z) : (Jvm.Cond.methodLink "java/lang/String" (27 : Nat) ({ cls := "java/lang/String", name := "<init>", desc := "([CIILjava/lang/Void;)V" } : Jvm.MethodName)).before a0 Z = true := hw _ (List.mem_of_getElem? (i := 18) rfl)
theorem w19 {a0 : Array Value} {Z : State} (hw : HW a0 Z) : (Jvm.Cond.instanceMethod ({ cls := "java/lang/String", name := "<init>", desc := "([CIILjava/lang/Void;)V" } : Jvm.MethodName)).before a0 Z = true := hw _ (List.mem_of_getElem? (i := 19) rfl)
theorem w21 {a0 : Array Value} {Z : State} (hw : HW a0 Z) : (Jvm.Cond.code ({ cls := "java/lang/String", name := "<init>", desc := "([CIILjava/lang/Void;)V" } : Jvm.MethodName) jdk_42_method_149_code (6 : Nat) (Option.none : Option Jvm.ClassFile.FieldType)).before a0 Z = true := hw _ (List.mem_of_getElem? (i := 21) rfl)
theorem w22 {a0 : Array Value} {Z : State} (hw : HW a0 Z) : (Jvm.Cond.methodLink "java/lang/String" (1 : Nat) ({ cls := "java/lang/Object", name := "<init>", desc := "()V" } : Jvm.MethodName)).before a0 Z = true := hw _ (List.mem_of_getElem? (i := 22) rfl)
theorem w23 {a0 : Array Value} {Z : State} (hw : HW a0 Z) : (Jvm.Cond.instanceMethod ({ cls := "java/lang/Object", name := "<init>", desc := "()V" } : Jvm.MethodName)).before a0 Z = true := hw _ (List.mem_of_getElem? (i := 23) rfl)
theorem w24 {a0 : Array Value} {Z : State} (hw : HW a0 Z) : (Jvm.Cond.code ({ cls := "java/lang/Object", name := "<init>", desc := "()V" } : Jvm.MethodName) object_method_1_code (1 : Nat) (Option.none : Option Jvm.ClassFile.FieldType)).before a0 Z = true := hw _ (List.mem_of_getElem? (i := 24) rfl)
theorem w25 {a0 : Array Value} {Z : State} (hw : HW a0 Z) : (Jvm.Cond.stringLink "java/lang/String" (7 : Nat) "").before a0 Z = true := hw _ (List.mem_of_getElem? (i := 25) rfl)
theorem w26 {a0 : Array Value} {Z : State} (hw : HW a0 Z) : (Jvm.Cond.arrayClass Jvm.ClassFile.FieldType.byte).before a0 Z = true := hw _ (List.mem_of_getElem? (i := 26) rfl)
theorem w27 {a0 : Array Value} {Z : State} (hw : HW a0 Z) : (Jvm.Cond.laysFinal "java/lang/String" "java/lang/String" "value" "[B").before a0 Z = true := hw _ (List.mem_of_getElem? (i := 27) rfl)
theorem w28 {a0 : Array Value} {Z : State} (hw : HW a0 Z) : (Jvm.Cond.laysFinal "java/lang/String" "java/lang/String" "coder" "B").before a0 Z = true := hw _ (List.mem_of_getElem? (i := 28) rfl)
theorem w29 {a0 : Array Value} {Z : State} (hw : HW a0 Z) : (Jvm.Cond.soleField "java/lang/String" "value").before a0 Z = true := hw _ (List.mem_of_getElem? (i := 29) rfl)
theorem w30 {a0 : Array Value} {Z : State} (hw : HW a0 Z) : (Jvm.Cond.soleField "java/lang/String" "coder").before a0 Z = true := hw _ (List.mem_of_getElem? (i := 30) rfl)
theorem w31 {a0 : Array Value} {Z : State} (hw : HW a0 Z) : (Jvm.Cond.fieldLink "java/lang/String" (9 : Nat) "java/lang/String" "value" "[B").before a0 Z = true := hw _ (List.mem_of_getElem? (i := 31) rfl)
theorem w32 {a0 : Array Value} {Z : State} (hw : HW a0 Z) : (Jvm.Cond.fieldLink "java/lang/String" (15 : Nat) "java/lang/String" "coder" "B").before a0 Z = true := hw _ (List.mem_of_getElem? (i := 32) rfl)
theorem w33 {a0 : Array Value} {Z : State} (hw : HW a0 Z) : (Jvm.Cond.classLink "com/example/quittance/quittance/AuditEntryWithInvoicePinLaw" (17 : Nat) "com/example/quittance/quittance/Amount").before a0 Z = true := hw _ (List.mem_of_getElem? (i := 33) rfl)
theorem w34 {a0 : Array Value} {Z : State} (hw : HW a0 Z) : (Jvm.Cond.instantiable "com/example/quittance/quittance/Amount" (1 : Nat)).before a0 Z = true := hw _ (List.mem_of_getElem? (i := 34) rfl)
theorem w35 {a0 : Array Value} {Z : State} (hw : HW a0 Z) : (Jvm.Cond.initialized "com/example/quittance/quittance/Amount").before a0 Z = true := hw _ (List.mem_of_getElem? (i := 35) rfl)
theorem w36 {a0 : Array Value} {Z : State} (hw : HW a0 Z) : (Jvm.Cond.methodLink "com/example/quittance/quittance/AuditEntryWithInvoicePinLaw" (19 : Nat) ({ cls := "com/example/quittance/quittance/Amount", name := "<init>", desc := "(J)V" } : Jvm.MethodName)).before a0 Z = true := hw _ (List.mem_of_getElem? (i := 36) rfl)
theorem w37 {a0 : Array Value} {Z : State} (hw : HW a0 Z) : (Jvm.Cond.instanceMethod ({ cls := "com/example/quittance/quittance/Amount", name := "<init>", desc := "(J)V" } : Jvm.MethodName)).before a0 Z = true := hw _ (List.mem_of_getElem? (i := 37) rfl)
theorem w38 {a0 : Array Value} {Z : State} (hw : HW a0 Z) : (Jvm.Cond.code ({ cls := "com/example/quittance/quittance/Amount", name := "<init>", desc := "(J)V" } : Jvm.MethodName) prog_2_method_1_code (3 : Nat) (Option.none : Option Jvm.ClassFile.FieldType)).before a0 Z = true := hw _ (List.mem_of_getElem? (i := 38) rfl)
theorem w39 {a0 : Array Value} {Z : State} (hw : HW a0 Z) : (Jvm.Cond.methodLink "com/example/quittance/quittance/Amount" (1 : Nat) ({ cls := "java/lang/Record", name := "<init>", desc := "()V" } : Jvm.MethodName)).before a0 Z = true := hw _ (List.mem_of_getElem? (i := 39) rfl)
theorem w40 {a0 : Array Value} {Z : State} (hw : HW a0 Z) : (Jvm.Cond.instanceMethod ({ cls := "java/lang/Record", name := "<init>", desc := "()V" } : Jvm.MethodName)).before a0 Z = true := hw _ (List.mem_of_getElem? (i := 40) rfl)
theorem w42 {a0 : Array Value} {Z : State} (hw : HW a0 Z) : (Jvm.Cond.initialized "java/lang/Record").before a0 Z = true := hw _ (List.mem_of_getElem? (i := 42) rfl)
theorem w43 {a0 : Array Value} {Z : State} (hw : HW a0 Z) : (Jvm.Cond.code ({ cls := "java/lang/Record", name := "<init>", desc := "()V" } : Jvm.MethodName) jdk_30_method_1_code (1 : Nat) (Option.none : Option Jvm.ClassFile.FieldType)).before a0 Z = true := hw _ (List.mem_of_getElem? (i := 43) rfl)
theorem w44 {a0 : Array Value} {Z : State} (hw : HW a0 Z) : (Jvm.Cond.methodLink "java/lang/Record" (1 : Nat) ({ cls := "java/lang/Object", name := "<init>", desc := "()V" } : Jvm.MethodName)).before a0 Z = true := hw _ (List.mem_of_getElem? (i := 44) rfl)
theorem w45 {a0 : Array Value} {Z : State} (hw : HW a0 Z) : (Jvm.Cond.fieldLink "com/example/quittance/quittance/Amount" (7 : Nat) "com/example/quittance/quittance/Amount" "cents" "J").before a0 Z = true := hw _ (List.mem_of_getElem? (i := 45) rfl)
theorem w46 {a0 : Array Value} {Z : State} (hw : HW a0 Z) : (Jvm.Cond.laysFinal "com/example/quittance/quittance/Amount" "com/example/quittance/quittance/Amount" "cents" "J").before a0 Z = true := hw _ (List.mem_of_getElem? (i := 46) rfl)
theorem w47 {a0 : Array Value} {Z : State} (hw : HW a0 Z) : (Jvm.Cond.classLink "com/example/quittance/quittance/AuditEntryWithInvoicePinLaw" (22 : Nat) "com/example/quittance/quittance/AuditEntry").before a0 Z = true := hw _ (List.mem_of_getElem? (i := 47) rfl)
theorem w48 {a0 : Array Value} {Z : State} (hw : HW a0 Z) : (Jvm.Cond.instantiable "com/example/quittance/quittance/AuditEntry" (5 : Nat)).before a0 Z = true := hw _ (List.mem_of_getElem? (i := 48) rfl)
theorem w49 {a0 : Array Value} {Z : State} (hw : HW a0 Z) : (Jvm.Cond.initialized "com/example/quittance/quittance/AuditEntry").before a0 Z = true := hw _ (List.mem_of_getElem? (i := 49) rfl)
theorem w50 {a0 : Array Value} {Z : State} (hw : HW a0 Z) : (Jvm.Cond.methodLink "com/example/quittance/quittance/AuditEntryWithInvoicePinLaw" (24 : Nat) ({ cls := "com/example/quittance/quittance/AuditEntry", name := "<init>", desc := "(Lcom/example/quittance/quittance/AuditEntry$Action;Ljava/lang/String;Ljava/lang/String;Lcom/example/quittance/quittance/Amount;Ljava/lang/String;)V" } : Jvm.MethodName)).before a0 Z = true := hw _ (List.mem_of_getElem? (i := 50) rfl)
theorem w51 {a0 : Array Value} {Z : State} (hw : HW a0 Z) : (Jvm.Cond.instanceMethod ({ cls := "com/example/quittance/quittance/AuditEntry", name := "<init>", desc := "(Lcom/example/quittance/quittance/AuditEntry$Action;Ljava/lang/String;Ljava/lang/String;Lcom/example/quittance/quittance/Amount;Ljava/lang/String;)V" } : Jvm.MethodName)).before a0 Z = true := hw _ (List.mem_of_getElem? (i := 51) rfl)
theorem w52 {a0 : Array Value} {Z : State} (hw : HW a0 Z) : (Jvm.Cond.code ({ cls := "com/example/quittance/quittance/AuditEntry", name := "<init>", desc := "(Lcom/example/quittance/quittance/AuditEntry$Action;Ljava/lang/String;Ljava/lang/String;Lcom/example/quittance/quittance/Amount;Ljava/lang/String;)V" } : Jvm.MethodName) prog_3_method_1_code (6 : Nat) (Option.none : Option Jvm.ClassFile.FieldType)).before a0 Z = true := hw _ (List.mem_of_getElem? (i := 52) rfl)
theorem w53 {a0 : Array Value} {Z : State} (hw : HW a0 Z) : (Jvm.Cond.methodLink "com/example/quittance/quittance/AuditEntry" (1 : Nat) ({ cls := "java/lang/Record", name := "<init>", desc := "()V" } : Jvm.MethodName)).before a0 Z = true := hw _ (List.mem_of_getElem? (i := 53) rfl)
theorem w54 {a0 : Array Value} {Z : State} (hw : HW a0 Z) : (Jvm.Cond.fieldLink "com/example/quittance/quittance/AuditEntry" (7 : Nat) "com/example/quittance/quittance/AuditEntry" "action" "Lcom/example/quittance/quittance/AuditEntry$Action;").before a0 Z = true := hw _ (List.mem_of_getElem? (i := 54) rfl)
theorem w55 {a0 : Array Value} {Z : State} (hw : HW a0 Z) : (Jvm.Cond.laysFinal "com/example/quittance/quittance/AuditEntry" "com/example/quittance/quittance/AuditEntry" "action" "Lcom/example/quittance/quittance/AuditEntry$Action;").before a0 Z = true := hw _ (List.mem_of_getElem? (i := 55) rfl)
theorem w56 {a0 : Array Value} {Z : State} (hw : HW a0 Z) : (Jvm.Cond.fieldLink "com/example/quittance/quittance/AuditEntry" (13 : Nat) "com/example/quittance/quittance/AuditEntry" "document" "Ljava/lang/String;").before a0 Z = true := hw _ (List.mem_of_getElem? (i := 56) rfl)
theorem w57 {a0 : Array Value} {Z : State} (hw : HW a0 Z) : (Jvm.Cond.laysFinal "com/example/quittance/quittance/AuditEntry" "com/example/quittance/quittance/AuditEntry" "document" "Ljava/lang/String;").before a0 Z = true := hw _ (List.mem_of_getElem? (i := 57) rfl)
theorem w58 {a0 : Array Value} {Z : State} (hw : HW a0 Z) : (Jvm.Cond.fieldLink "com/example/quittance/quittance/AuditEntry" (17 : Nat) "com/example/quittance/quittance/AuditEntry" "invoice" "Ljava/lang/String;").before a0 Z = true := hw _ (List.mem_of_getElem? (i := 58) rfl)
theorem w59 {a0 : Array Value} {Z : State} (hw : HW a0 Z) : (Jvm.Cond.laysFinal "com/example/quittance/quittance/AuditEntry" "com/example/quittance/quittance/AuditEntry" "invoice" "Ljava/lang/String;").before a0 Z = true := hw _ (List.mem_of_getElem? (i := 59) rfl)
theorem w60 {a0 : Array Value} {Z : State} (hw : HW a0 Z) : (Jvm.Cond.fieldLink "com/example/quittance/quittance/AuditEntry" (20 : Nat) "com/example/quittance/quittance/AuditEntry" "amount" "Lcom/example/quittance/quittance/Amount;").before a0 Z = true := hw _ (List.mem_of_getElem? (i := 60) rfl)
theorem w61 {a0 : Array Value} {Z : State} (hw : HW a0 Z) : (Jvm.Cond.laysFinal "com/example/quittance/quittance/AuditEntry" "com/example/quittance/quittance/AuditEntry" "amount" "Lcom/example/quittance/quittance/Amount;").before a0 Z = true := hw _ (List.mem_of_getElem? (i := 61) rfl)
theorem w62 {a0 : Array Value} {Z : State} (hw : HW a0 Z) : (Jvm.Cond.fieldLink "com/example/quittance/quittance/AuditEntry" (24 : Nat) "com/example/quittance/quittance/AuditEntry" "reasonCode" "Ljava/lang/String;").before a0 Z = true := hw _ (List.mem_of_getElem? (i := 62) rfl)
theorem w63 {a0 : Array Value} {Z : State} (hw : HW a0 Z) : (Jvm.Cond.laysFinal "com/example/quittance/quittance/AuditEntry" "com/example/quittance/quittance/AuditEntry" "reasonCode" "Ljava/lang/String;").before a0 Z = true := hw _ (List.mem_of_getElem? (i := 63) rfl)
theorem w64 {a0 : Array Value} {Z : State} (hw : HW a0 Z) : (Jvm.Cond.methodLink "com/example/quittance/quittance/AuditEntryWithInvoicePinLaw" (27 : Nat) ({ cls := "com/example/quittance/quittance/AuditEntry", name := "withInvoice", desc := "(Ljava/lang/String;)Lcom/example/quittance/quittance/AuditEntry;" } : Jvm.MethodName)).before a0 Z = true := hw _ (List.mem_of_getElem? (i := 64) rfl)
theorem w65 {a0 : Array Value} {Z : State} (hw : HW a0 Z) : (Jvm.Cond.declares ({ cls := "com/example/quittance/quittance/AuditEntry", name := "withInvoice", desc := "(Ljava/lang/String;)Lcom/example/quittance/quittance/AuditEntry;" } : Jvm.MethodName)).before a0 Z = true := hw _ (List.mem_of_getElem? (i := 65) rfl)
theorem w66 {a0 : Array Value} {Z : State} (hw : HW a0 Z) : (Jvm.Cond.instanceMethod ({ cls := "com/example/quittance/quittance/AuditEntry", name := "withInvoice", desc := "(Ljava/lang/String;)Lcom/example/quittance/quittance/AuditEntry;" } : Jvm.MethodName)).before a0 Z = true := hw _ (List.mem_of_getElem? (i := 66) rfl)
theorem w67 {a0 : Array Value} {Z : State} (hw : HW a0 Z) : (Jvm.Cond.selects "com/example/quittance/quittance/AuditEntry" ({ cls := "com/example/quittance/quittance/AuditEntry", name := "withInvoice", desc := "(Ljava/lang/String;)Lcom/example/quittance/quittance/AuditEntry;" } : Jvm.MethodName) ({ cls := "com/example/quittance/quittance/AuditEntry", name := "withInvoice", desc := "(Ljava/lang/String;)Lcom/example/quittance/quittance/AuditEntry;" } : Jvm.MethodName)).before a0 Z = true := hw _ (List.mem_of_getElem? (i := 67) rfl)
theorem w68 {a0 : Array Value} {Z : State} (hw : HW a0 Z) : (Jvm.Cond.code ({ cls := "com/example/quittance/quittance/AuditEntry", name := "withInvoice", desc := "(Ljava/lang/String;)Lcom/example/quittance/quittance/AuditEntry;" } : Jvm.MethodName) prog_3_method_3_code (2 : Nat) (Option.some (Jvm.ClassFile.FieldType.object "com/example/quittance/quittance/AuditEntry"))).before a0 Z = true := hw _ (List.mem_of_getElem? (i := 68) rfl)
theorem w69 {a0 : Array Value} {Z : State} (hw : HW a0 Z) : (Jvm.Cond.classLink "com/example/quittance/quittance/AuditEntry" (8 : Nat) "com/example/quittance/quittance/AuditEntry").before a0 Z = true := hw _ (List.mem_of_getElem? (i := 69) rfl)
theorem w70 {a0 : Array Value} {Z : State} (hw : HW a0 Z) : (Jvm.Cond.methodLink "com/example/quittance/quittance/AuditEntry" (27 : Nat) ({ cls := "com/example/quittance/quittance/AuditEntry", name := "<init>", desc := "(Lcom/example/quittance/quittance/AuditEntry$Action;Ljava/lang/String;Ljava/lang/String;Lcom/example/quittance/quittance/Amount;Ljava/lang/String;)V" } : Jvm.MethodName)).before a0 Z = true := hw _ (List.mem_of_getElem? (i := 70) rfl)
theorem w71 {a0 : Array Value} {Z : State} (hw : HW a0 Z) : (Jvm.Cond.methodLink "com/example/quittance/quittance/AuditEntryWithInvoicePinLaw" (31 : Nat) ({ cls := "com/example/quittance/quittance/AuditEntry", name := "action", desc := "()Lcom/example/quittance/quittance/AuditEntry$Action;" } : Jvm.MethodName)).before a0 Z = true := hw _ (List.mem_of_getElem? (i := 71) rfl)
theorem w72 {a0 : Array Value} {Z : State} (hw : HW a0 Z) : (Jvm.Cond.declares ({ cls := "com/example/quittance/quittance/AuditEntry", name := "action", desc := "()Lcom/example/quittance/quittance/AuditEntry$Action;" } : Jvm.MethodName)).before a0 Z = true := hw _ (List.mem_of_getElem? (i := 72) rfl)
theorem w73 {a0 : Array Value} {Z : State} (hw : HW a0 Z) : (Jvm.Cond.instanceMethod ({ cls := "com/example/quittance/quittance/AuditEntry", name := "action", desc := "()Lcom/example/quittance/quittance/AuditEntry$Action;" } : Jvm.MethodName)).before a0 Z = true := hw _ (List.mem_of_getElem? (i := 73) rfl)
theorem w74 {a0 : Array Value} {Z : State} (hw : HW a0 Z) : (Jvm.Cond.selects "com/example/quittance/quittance/AuditEntry" ({ cls := "com/example/quittance/quittance/AuditEntry", name := "action", desc := "()Lcom/example/quittance/quittance/AuditEntry$Action;" } : Jvm.MethodName) ({ cls := "com/example/quittance/quittance/AuditEntry", name := "action", desc := "()Lcom/example/quittance/quittance/AuditEntry$Action;" } : Jvm.MethodName)).before a0 Z = true := hw _ (List.mem_of_getElem? (i := 74) rfl)
theorem w75 {a0 : Array Value} {Z : State} (hw : HW a0 Z) : (Jvm.Cond.code ({ cls := "com/example/quittance/quittance/AuditEntry", name := "action", desc := "()Lcom/example/quittance/quittance/AuditEntry$Action;" } : Jvm.MethodName) prog_3_method_9_code (1 : Nat) (Option.some (Jvm.ClassFile.FieldType.object "com/example/quittance/quittance/AuditEntry$Action"))).before a0 Z = true := hw _ (List.mem_of_getElem? (i := 75) rfl)
theorem w76 {a0 : Array Value} {Z : State} (hw : HW a0 Z) : (Jvm.Cond.methodLink "com/example/quittance/quittance/AuditEntryWithInvoicePinLaw" (34 : Nat) ({ cls := "com/example/quittance/quittance/AuditEntry", name := "document", desc := "()Ljava/lang/String;" } : Jvm.MethodName)).before a0 Z = true := hw _ (List.mem_of_getElem? (i := 76) rfl)
theorem w77 {a0 : Array Value} {Z : State} (hw : HW a0 Z) : (Jvm.Cond.declares ({ cls := "com/example/quittance/quittance/AuditEntry", name := "document", desc := "()Ljava/lang/String;" } : Jvm.MethodName)).before a0 Z = true := hw _ (List.mem_of_getElem? (i := 77) rfl)
theorem w78 {a0 : Array Value} {Z : State} (hw : HW a0 Z) : (Jvm.Cond.instanceMethod ({ cls := "com/example/quittance/quittance/AuditEntry", name := "document", desc := "()Ljava/lang/String;" } : Jvm.MethodName)).before a0 Z = true := hw _ (List.mem_of_getElem? (i := 78) rfl)
theorem w79 {a0 : Array Value} {Z : State} (hw : HW a0 Z) : (Jvm.Cond.selects "com/example/quittance/quittance/AuditEntry" ({ cls := "com/example/quittance/quittance/AuditEntry", name := "document", desc := "()Ljava/lang/String;" } : Jvm.MethodName) ({ cls := "com/example/quittance/quittance/AuditEntry", name := "document", desc := "()Ljava/lang/String;" } : Jvm.MethodName)).before a0 Z = true := hw _ (List.mem_of_getElem? (i := 79) rfl)
theorem w80 {a0 : Array Value} {Z : State} (hw : HW a0 Z) : (Jvm.Cond.code ({ cls := "com/example/quittance/quittance/AuditEntry", name := "document", desc := "()Ljava/lang/String;" } : Jvm.MethodName) prog_3_method_10_code (1 : Nat) (Option.some (Jvm.ClassFile.FieldType.object "java/lang/String"))).before a0 Z = true := hw _ (List.mem_of_getElem? (i := 80) rfl)
theorem w81 {a0 : Array Value} {Z : State} (hw : HW a0 Z) : (Jvm.Cond.methodLink "com/example/quittance/quittance/AuditEntryWithInvoicePinLaw" (38 : Nat) ({ cls := "com/example/quittance/quittance/AuditEntryWithInvoicePinLaw", name := "same", desc := "(Ljava/lang/String;Ljava/lang/String;)Z" } : Jvm.MethodName)).before a0 Z = true := hw _ (List.mem_of_getElem? (i := 81) rfl)
theorem w82 {a0 : Array Value} {Z : State} (hw : HW a0 Z) : (Jvm.Cond.static ({ cls := "com/example/quittance/quittance/AuditEntryWithInvoicePinLaw", name := "same", desc := "(Ljava/lang/String;Ljava/lang/String;)Z" } : Jvm.MethodName)).before a0 Z = true := hw _ (List.mem_of_getElem? (i := 82) rfl)
theorem w83 {a0 : Array Value} {Z : State} (hw : HW a0 Z) : (Jvm.Cond.code ({ cls := "com/example/quittance/quittance/AuditEntryWithInvoicePinLaw", name := "same", desc := "(Ljava/lang/String;Ljava/lang/String;)Z" } : Jvm.MethodName) method_3_code (2 : Nat) (Option.some Jvm.ClassFile.FieldType.boolean)).before a0 Z = true := hw _ (List.mem_of_getElem? (i := 83) rfl)
theorem w84 {a0 : Array Value} {Z : State} (hw : HW a0 Z) : (Jvm.Cond.methodLink "com/example/quittance/quittance/AuditEntryWithInvoicePinLaw" (56 : Nat) ({ cls := "java/lang/String", name := "equals", desc := "(Ljava/lang/Object;)Z" } : Jvm.MethodName)).before a0 Z = true := hw _ (List.mem_of_getElem? (i := 84) rfl)
theorem w85 {a0 : Array Value} {Z : State} (hw : HW a0 Z) : (Jvm.Cond.declares ({ cls := "java/lang/String", name := "equals", desc := "(Ljava/lang/Object;)Z" } : Jvm.MethodName)).before a0 Z = true := hw _ (List.mem_of_getElem? (i := 85) rfl)
theorem w86 {a0 : Array Value} {Z : State} (hw : HW a0 Z) : (Jvm.Cond.instanceMethod ({ cls := "java/lang/String", name := "equals", desc := "(Ljava/lang/Object;)Z" } : Jvm.MethodName)).before a0 Z = true := hw _ (List.mem_of_getElem? (i := 86) rfl)
theorem w87 {a0 : Array Value} {Z : State} (hw : HW a0 Z) : (Jvm.Cond.selects "java/lang/String" ({ cls := "java/lang/String", name := "equals", desc := "(Ljava/lang/Object;)Z" } : Jvm.MethodName) ({ cls := "java/lang/String", name := "equals", desc := "(Ljava/lang/Object;)Z" } : Jvm.MethodName)).before a0 Z = true := hw _ (List.mem_of_getElem? (i := 87) rfl)
theorem w88 {a0 : Array Value} {Z : State} (hw : HW a0 Z) : (Jvm.Cond.code ({ cls := "java/lang/String", name := "equals", desc := "(Ljava/lang/Object;)Z" } : Jvm.MethodName) jdk_42_method_66_code (3 : Nat) (Option.some Jvm.ClassFile.FieldType.boolean)).before a0 Z = true := hw _ (List.mem_of_getElem? (i := 88) rfl)
theorem w89 {a0 : Array Value} {Z : State} (hw : HW a0 Z) : (Jvm.Cond.methodLink "com/example/quittance/quittance/AuditEntryWithInvoicePinLaw" (42 : Nat) ({ cls := "com/example/quittance/quittance/AuditEntry", name := "invoice", desc := "()Ljava/lang/String;" } : Jvm.MethodName)).before a0 Z = true := hw _ (List.mem_of_getElem? (i := 89) rfl)
theorem w90 {a0 : Array Value} {Z : State} (hw : HW a0 Z) : (Jvm.Cond.declares ({ cls := "com/example/quittance/quittance/AuditEntry", name := "invoice", desc := "()Ljava/lang/String;" } : Jvm.MethodName)).before a0 Z = true := hw _ (List.mem_of_getElem? (i := 90) rfl)
theorem w91 {a0 : Array Value} {Z : State} (hw : HW a0 Z) : (Jvm.Cond.instanceMethod ({ cls := "com/example/quittance/quittance/AuditEntry", name := "invoice", desc := "()Ljava/lang/String;" } : Jvm.MethodName)).before a0 Z = true := hw _ (List.mem_of_getElem? (i := 91) rfl)
theorem w92 {a0 : Array Value} {Z : State} (hw : HW a0 Z) : (Jvm.Cond.selects "com/example/quittance/quittance/AuditEntry" ({ cls := "com/example/quittance/quittance/AuditEntry", name := "invoice", desc := "()Ljava/lang/String;" } : Jvm.MethodName) ({ cls := "com/example/quittance/quittance/AuditEntry", name := "invoice", desc := "()Ljava/lang/String;" } : Jvm.MethodName)).before a0 Z = true := hw _ (List.mem_of_getElem? (i := 92) rfl)
theorem w93 {a0 : Array Value} {Z : State} (hw : HW a0 Z) : (Jvm.Cond.code ({ cls := "com/example/quittance/quittance/AuditEntry", name := "invoice", desc := "()Ljava/lang/String;" } : Jvm.MethodName) prog_3_method_11_code (1 : Nat) (Option.some (Jvm.ClassFile.FieldType.object "java/lang/String"))).before a0 Z = true := hw _ (List.mem_of_getElem? (i := 93) rfl)
theorem w94 {a0 : Array Value} {Z : State} (hw : HW a0 Z) : (Jvm.Cond.methodLink "com/example/quittance/quittance/AuditEntryWithInvoicePinLaw" (45 : Nat) ({ cls := "com/example/quittance/quittance/AuditEntry", name := "amount", desc := "()Lcom/example/quittance/quittance/Amount;" } : Jvm.MethodName)).before a0 Z = true := hw _ (List.mem_of_getElem? (i := 94) rfl)
theorem w95 {a0 : Array Value} {Z : State} (hw : HW a0 Z) : (Jvm.Cond.declares ({ cls := "com/example/quittance/quittance/AuditEntry", name := "amount", desc := "()Lcom/example/quittance/quittance/Amount;" } : Jvm.MethodName)).before a0 Z = true := hw _ (List.mem_of_getElem? (i := 95) rfl)
theorem w96 {a0 : Array Value} {Z : State} (hw : HW a0 Z) : (Jvm.Cond.instanceMethod ({ cls := "com/example/quittance/quittance/AuditEntry", name := "amount", desc := "()Lcom/example/quittance/quittance/Amount;" } : Jvm.MethodName)).before a0 Z = true := hw _ (List.mem_of_getElem? (i := 96) rfl)
theorem w97 {a0 : Array Value} {Z : State} (hw : HW a0 Z) : (Jvm.Cond.selects "com/example/quittance/quittance/AuditEntry" ({ cls := "com/example/quittance/quittance/AuditEntry", name := "amount", desc := "()Lcom/example/quittance/quittance/Amount;" } : Jvm.MethodName) ({ cls := "com/example/quittance/quittance/AuditEntry", name := "amount", desc := "()Lcom/example/quittance/quittance/Amount;" } : Jvm.MethodName)).before a0 Z = true := hw _ (List.mem_of_getElem? (i := 97) rfl)
theorem w98 {a0 : Array Value} {Z : State} (hw : HW a0 Z) : (Jvm.Cond.code ({ cls := "com/example/quittance/quittance/AuditEntry", name := "amount", desc := "()Lcom/example/quittance/quittance/Amount;" } : Jvm.MethodName) prog_3_method_12_code (1 : Nat) (Option.some (Jvm.ClassFile.FieldType.object "com/example/quittance/quittance/Amount"))).before a0 Z = true := hw _ (List.mem_of_getElem? (i := 98) rfl)
theorem w99 {a0 : Array Value} {Z : State} (hw : HW a0 Z) : (Jvm.Cond.methodLink "com/example/quittance/quittance/AuditEntryWithInvoicePinLaw" (49 : Nat) ({ cls := "com/example/quittance/quittance/AuditEntryWithInvoicePinLaw", name := "sameAmount", desc := "(Lcom/example/quittance/quittance/Amount;ZJ)Z" } : Jvm.MethodName)).before a0 Z = true := hw _ (List.mem_of_getElem? (i := 99) rfl)
theorem w100 {a0 : Array Value} {Z : State} (hw : HW a0 Z) : (Jvm.Cond.static ({ cls := "com/example/quittance/quittance/AuditEntryWithInvoicePinLaw", name := "sameAmount", desc := "(Lcom/example/quittance/quittance/Amount;ZJ)Z" } : Jvm.MethodName)).before a0 Z = true := hw _ (List.mem_of_getElem? (i := 100) rfl)
theorem w101 {a0 : Array Value} {Z : State} (hw : HW a0 Z) : (Jvm.Cond.code ({ cls := "com/example/quittance/quittance/AuditEntryWithInvoicePinLaw", name := "sameAmount", desc := "(Lcom/example/quittance/quittance/Amount;ZJ)Z" } : Jvm.MethodName) method_4_code (4 : Nat) (Option.some Jvm.ClassFile.FieldType.boolean)).before a0 Z = true := hw _ (List.mem_of_getElem? (i := 101) rfl)
theorem w102 {a0 : Array Value} {Z : State} (hw : HW a0 Z) : (Jvm.Cond.methodLink "com/example/quittance/quittance/AuditEntryWithInvoicePinLaw" (62 : Nat) ({ cls := "com/example/quittance/quittance/Amount", name := "cents", desc := "()J" } : Jvm.MethodName)).before a0 Z = true := hw _ (List.mem_of_getElem? (i := 102) rfl)
theorem w103 {a0 : Array Value} {Z : State} (hw : HW a0 Z) : (Jvm.Cond.declares ({ cls := "com/example/quittance/quittance/Amount", name := "cents", desc := "()J" } : Jvm.MethodName)).before a0 Z = true := hw _ (List.mem_of_getElem? (i := 103) rfl)
theorem w104 {a0 : Array Value} {Z : State} (hw : HW a0 Z) : (Jvm.Cond.instanceMethod ({ cls := "com/example/quittance/quittance/Amount", name := "cents", desc := "()J" } : Jvm.MethodName)).before a0 Z = true := hw _ (List.mem_of_getElem? (i := 104) rfl)
theorem w105 {a0 : Array Value} {Z : State} (hw : HW a0 Z) : (Jvm.Cond.selects "com/example/quittance/quittance/Amount" ({ cls := "com/example/quittance/quittance/Amount", name := "cents", desc := "()J" } : Jvm.MethodName) ({ cls := "com/example/quittance/quittance/Amount", name := "cents", desc := "()J" } : Jvm.MethodName)).before a0 Z = true := hw _ (List.mem_of_getElem? (i := 105) rfl)
theorem w106 {a0 : Array Value} {Z : State} (hw : HW a0 Z) : (Jvm.Cond.code ({ cls := "com/example/quittance/quittance/Amount", name := "cents", desc := "()J" } : Jvm.MethodName) prog_2_method_14_code (1 : Nat) (Option.some Jvm.ClassFile.FieldType.long)).before a0 Z = true := hw _ (List.mem_of_getElem? (i := 106) rfl)
theorem w107 {a0 : Array Value} {Z : State} (hw : HW a0 Z) : (Jvm.Cond.methodLink "com/example/quittance/quittance/AuditEntryWithInvoicePinLaw" (53 : Nat) ({ cls := "com/example/quittance/quittance/AuditEntry", name := "reasonCode", desc := "()Ljava/lang/String;" } : Jvm.MethodName)).before a0 Z = true := hw _ (List.mem_of_getElem? (i := 107) rfl)
theorem w108 {a0 : Array Value} {Z : State} (hw : HW a0 Z) : (Jvm.Cond.declares ({ cls := "com/example/quittance/quittance/AuditEntry", name := "reasonCode", desc := "()Ljava/lang/String;" } : Jvm.MethodName)).before a0 Z = true := hw _ (List.mem_of_getElem? (i := 108) rfl)
theorem w109 {a0 : Array Value} {Z : State} (hw : HW a0 Z) : (Jvm.Cond.instanceMethod ({ cls := "com/example/quittance/quittance/AuditEntry", name := "reasonCode", desc := "()Ljava/lang/String;" } : Jvm.MethodName)).before a0 Z = true := hw _ (List.mem_of_getElem? (i := 109) rfl)
theorem w110 {a0 : Array Value} {Z : State} (hw : HW a0 Z) : (Jvm.Cond.selects "com/example/quittance/quittance/AuditEntry" ({ cls := "com/example/quittance/quittance/AuditEntry", name := "reasonCode", desc := "()Ljava/lang/String;" } : Jvm.MethodName) ({ cls := "com/example/quittance/quittance/AuditEntry", name := "reasonCode", desc := "()Ljava/lang/String;" } : Jvm.MethodName)).before a0 Z = true := hw _ (List.mem_of_getElem? (i := 110) rfl)
theorem w111 {a0 : Array Value} {Z : State} (hw : HW a0 Z) : (Jvm.Cond.code ({ cls := "com/example/quittance/quittance/AuditEntry", name := "reasonCode", desc := "()Ljava/lang/String;" } : Jvm.MethodName) prog_3_method_13_code (1 : Nat) (Option.some (Jvm.ClassFile.FieldType.object "java/lang/String"))).before a0 Z = true := hw _ (List.mem_of_getElem? (i := 111) rfl)
theorem w112 {a0 : Array Value} {Z : State} (hw : HW a0 Z) : (Jvm.Cond.fieldLink "com/example/quittance/quittance/AuditEntryWithInvoicePinLaw" (76 : Nat) "com/example/quittance/quittance/AuditEntry$Action" "CUSTOMER_CREATED" "Lcom/example/quittance/quittance/AuditEntry$Action;").before a0 Z = true := hw _ (List.mem_of_getElem? (i := 112) rfl)
theorem w113 {a0 : Array Value} {Z : State} (hw : HW a0 Z) : (Jvm.Cond.laysStatic "com/example/quittance/quittance/AuditEntry$Action" "CUSTOMER_CREATED" "Lcom/example/quittance/quittance/AuditEntry$Action;").before a0 Z = true := hw _ (List.mem_of_getElem? (i := 113) rfl)
theorem w114 {a0 : Array Value} {Z : State} (hw : HW a0 Z) : (Jvm.Cond.fieldLink "com/example/quittance/quittance/AuditEntryWithInvoicePinLaw" (106 : Nat) "com/example/quittance/quittance/AuditEntry$Action" "CREDIT_ALLOCATED" "Lcom/example/quittance/quittance/AuditEntry$Action;").before a0 Z = true := hw _ (List.mem_of_getElem? (i := 114) rfl)
theorem w115 {a0 : Array Value} {Z : State} (hw : HW a0 Z) : (Jvm.Cond.laysStatic "com/example/quittance/quittance/AuditEntry$Action" "CREDIT_ALLOCATED" "Lcom/example/quittance/quittance/AuditEntry$Action;").before a0 Z = true := hw _ (List.mem_of_getElem? (i := 115) rfl)
theorem w116 {a0 : Array Value} {Z : State} (hw : HW a0 Z) : (Jvm.Cond.fieldLink "java/lang/String" (38 : Nat) "java/lang/String" "COMPACT_STRINGS" "Z").before a0 Z = true := hw _ (List.mem_of_getElem? (i := 116) rfl)
theorem w117 {a0 : Array Value} {Z : State} (hw : HW a0 Z) : (Jvm.Cond.methodLink "java/lang/String" (177 : Nat) ({ cls := "java/lang/StringUTF16", name := "compress", desc := "([CII)[B" } : Jvm.MethodName)).before a0 Z = true := hw _ (List.mem_of_getElem? (i := 117) rfl)
theorem w118 {a0 : Array Value} {Z : State} (hw : HW a0 Z) : (Jvm.Cond.static ({ cls := "java/lang/StringUTF16", name := "compress", desc := "([CII)[B" } : Jvm.MethodName)).before a0 Z = true := hw _ (List.mem_of_getElem? (i := 118) rfl)
theorem w119 {a0 : Array Value} {Z : State} (hw : HW a0 Z) : (Jvm.Cond.initialized "java/lang/StringUTF16").before a0 Z = true := hw _ (List.mem_of_getElem? (i := 119) rfl)
theorem w120 {a0 : Array Value} {Z : State} (hw : HW a0 Z) : (Jvm.Cond.code ({ cls := "java/lang/StringUTF16", name := "compress", desc := "([CII)[B" } : Jvm.MethodName) jdk_52_method_16_code (6 : Nat) (Option.some (Jvm.ClassFile.FieldType.array Jvm.ClassFile.FieldType.byte))).before a0 Z = true := hw _ (List.mem_of_getElem? (i := 120) rfl)
theorem w121 {a0 : Array Value} {Z : State} (hw : HW a0 Z) : (Jvm.Cond.methodLink "java/lang/StringUTF16" (115 : Nat) ({ cls := "java/lang/StringUTF16", name := "compress", desc := "([CI[BII)I" } : Jvm.MethodName)).before a0 Z = true := hw _ (List.mem_of_getElem? (i := 121) rfl)
theorem w122 {a0 : Array Value} {Z : State} (hw : HW a0 Z) : (Jvm.Cond.static ({ cls := "java/lang/StringUTF16", name := "compress", desc := "([CI[BII)I" } : Jvm.MethodName)).before a0 Z = true := hw _ (List.mem_of_getElem? (i := 122) rfl)
theorem w123 {a0 : Array Value} {Z : State} (hw : HW a0 Z) : (Jvm.Cond.code ({ cls := "java/lang/StringUTF16", name := "compress", desc := "([CI[BII)I" } : Jvm.MethodName) jdk_52_method_21_code (7 : Nat) (Option.some Jvm.ClassFile.FieldType.int)).before a0 Z = true := hw _ (List.mem_of_getElem? (i := 123) rfl)
theorem w124 {a0 : Array Value} {Z : State} (hw : HW a0 Z) : (Jvm.Cond.methodLink "java/lang/String" (47 : Nat) ({ cls := "java/lang/StringUTF16", name := "coderFromArrayLen", desc := "([BI)B" } : Jvm.MethodName)).before a0 Z = true := hw _ (List.mem_of_getElem? (i := 124) rfl)
theorem w125 {a0 : Array Value} {Z : State} (hw : HW a0 Z) : (Jvm.Cond.static ({ cls := "java/lang/StringUTF16", name := "coderFromArrayLen", desc := "([BI)B" } : Jvm.MethodName)).before a0 Z = true := hw _ (List.mem_of_getElem? (i := 125) rfl)
theorem w126 {a0 : Array Value} {Z : State} (hw : HW a0 Z) : (Jvm.Cond.code ({ cls := "java/lang/StringUTF16", name := "coderFromArrayLen", desc := "([BI)B" } : Jvm.MethodName) jdk_52_method_15_code (2 : Nat) (Option.some Jvm.ClassFile.FieldType.byte)).before a0 Z = true := hw _ (List.mem_of_getElem? (i := 126) rfl)
theorem w127 {a0 : Array Value} {Z : State} (hw : HW a0 Z) : (Jvm.Cond.fieldLink "com/example/quittance/quittance/AuditEntryWithInvoicePinLaw" (85 : Nat) "com/example/quittance/quittance/AuditEntry$Action" "INVOICE_ADJUSTED" "Lcom/example/quittance/quittance/AuditEntry$Action;").before a0 Z = true := hw _ (List.mem_of_getElem? (i := 127) rfl)
theorem w128 {a0 : Array Value} {Z : State} (hw : HW a0 Z) : (Jvm.Cond.laysStatic "com/example/quittance/quittance/AuditEntry$Action" "INVOICE_ADJUSTED" "Lcom/example/quittance/quittance/AuditEntry$Action;").before a0 Z = true := hw _ (List.mem_of_getElem? (i := 128) rfl)
theorem w129 {a0 : Array Value} {Z : State} (hw : HW a0 Z) : (Jvm.Cond.fieldLink "com/example/quittance/quittance/AuditEntryWithInvoicePinLaw" (82 : Nat) "com/example/quittance/quittance/AuditEntry$Action" "INVOICE_POSTED" "Lcom/example/quittance/quittance/AuditEntry$Action;").before a0 Z = true := hw _ (List.mem_of_getElem? (i := 129) rfl)
theorem w130 {a0 : Array Value} {Z : State} (hw : HW a0 Z) : (Jvm.Cond.laysStatic "com/example/quittance/quittance/AuditEntry$Action" "INVOICE_POSTED" "Lcom/example/quittance/quittance/AuditEntry$Action;").before a0 Z = true := hw _ (List.mem_of_getElem? (i := 130) rfl)
theorem w131 {a0 : Array Value} {Z : State} (hw : HW a0 Z) : (Jvm.Cond.fieldLink "com/example/quittance/quittance/AuditEntryWithInvoicePinLaw" (103 : Nat) "com/example/quittance/quittance/AuditEntry$Action" "CREDIT_MEMO_POSTED" "Lcom/example/quittance/quittance/AuditEntry$Action;").before a0 Z = true := hw _ (List.mem_of_getElem? (i := 131) rfl)
theorem w132 {a0 : Array Value} {Z : State} (hw : HW a0 Z) : (Jvm.Cond.laysStatic "com/example/quittance/quittance/AuditEntry$Action" "CREDIT_MEMO_POSTED" "Lcom/example/quittance/quittance/AuditEntry$Action;").before a0 Z = true := hw _ (List.mem_of_getElem? (i := 132) rfl)
theorem w133 {a0 : Array Value} {Z : State} (hw : HW a0 Z) : (Jvm.Cond.fieldLink "com/example/quittance/quittance/AuditEntryWithInvoicePinLaw" (100 : Nat) "com/example/quittance/quittance/AuditEntry$Action" "CREDIT_NOTE_DRAFTED" "Lcom/example/quittance/quittance/AuditEntry$Action;").before a0 Z = true := hw _ (List.mem_of_getElem? (i := 133) rfl)
theorem w134 {a0 : Array Value} {Z : State} (hw : HW a0 Z) : (Jvm.Cond.laysStatic "com/example/quittance/quittance/AuditEntry$Action" "CREDIT_NOTE_DRAFTED" "Lcom/example/quittance/quittance/AuditEntry$Action;").before a0 Z = true := hw _ (List.mem_of_getElem? (i := 134) rfl)
theorem w135 {a0 : Array Value} {Z : State} (hw : HW a0 Z) : (Jvm.Cond.fieldLink "com/example/quittance/quittance/AuditEntryWithInvoicePinLaw" (112 : Nat) "com/example/quittance/quittance/AuditEntry$Action" "CREDIT_NOTE_VOIDED" "Lcom/example/quittance/quittance/AuditEntry$Action;").before a0 Z = true := hw _ (List.mem_of_getElem? (i := 135) rfl)
theorem w136 {a0 : Array Value} {Z : State} (hw : HW a0 Z) : (Jvm.Cond.laysStatic "com/example/quittance/quittance/AuditEntry$Action" "CREDIT_NOTE_VOIDED" "Lcom/example/quittance/quittance/AuditEntry$Action;").before a0 Z = true := hw _ (List.mem_of_getElem? (i := 136) rfl)
theorem w137 {a0 : Array Value} {Z : State} (hw : HW a0 Z) : (Jvm.Cond.fieldLink "com/example/quittance/quittance/AuditEntryWithInvoicePinLaw" (94 : Nat) "com/example/quittance/quittance/AuditEntry$Action" "PAYMENT_APPLICATION_REVERSED" "Lcom/example/quittance/quittance/AuditEntry$Action;").before a0 Z = true := hw _ (List.mem_of_getElem? (i := 137) rfl)
theorem w138 {a0 : Array Value} {Z : State} (hw : HW a0 Z) : (Jvm.Cond.laysStatic "com/example/quittance/quittance/AuditEntry$Action" "PAYMENT_APPLICATION_REVERSED" "Lcom/example/quittance/quittance/AuditEntry$Action;").before a0 Z = true := hw _ (List.mem_of_getElem? (i := 138) rfl)
theorem w139 {a0 : Array Value} {Z : State} (hw : HW a0 Z) : (Jvm.Cond.fieldLink "com/example/quittance/quittance/AuditEntryWithInvoicePinLaw" (91 : Nat) "com/example/quittance/quittance/AuditEntry$Action" "PAYMENT_APPLIED" "Lcom/example/quittance/quittance/AuditEntry$Action;").before a0 Z = true := hw _ (List.mem_of_getElem? (i := 139) rfl)
theorem w140 {a0 : Array Value} {Z : State} (hw : HW a0 Z) : (Jvm.Cond.laysStatic "com/example/quittance/quittance/AuditEntry$Action" "PAYMENT_APPLIED" "Lcom/example/quittance/quittance/AuditEntry$Action;").before a0 Z = true := hw _ (List.mem_of_getElem? (i := 140) rfl)
theorem w141 {a0 : Array Value} {Z : State} (hw : HW a0 Z) : (Jvm.Cond.fieldLink "com/example/quittance/quittance/AuditEntryWithInvoicePinLaw" (97 : Nat) "com/example/quittance/quittance/AuditEntry$Action" "CUSTOMER_CREDIT_CREATED" "Lcom/example/quittance/quittance/AuditEntry$Action;").before a0 Z = true := hw _ (List.mem_of_getElem? (i := 141) rfl)
theorem w142 {a0 : Array Value} {Z : State} (hw : HW a0 Z) : (Jvm.Cond.laysStatic "com/example/quittance/quittance/AuditEntry$Action" "CUSTOMER_CREDIT_CREATED" "Lcom/example/quittance/quittance/AuditEntry$Action;").before a0 Z = true := hw _ (List.mem_of_getElem? (i := 142) rfl)
theorem w143 {a0 : Array Value} {Z : State} (hw : HW a0 Z) : (Jvm.Cond.fieldLink "com/example/quittance/quittance/AuditEntryWithInvoicePinLaw" (88 : Nat) "com/example/quittance/quittance/AuditEntry$Action" "PAYMENT_RECORDED" "Lcom/example/quittance/quittance/AuditEntry$Action;").before a0 Z = true := hw _ (List.mem_of_getElem? (i := 143) rfl)
theorem w144 {a0 : Array Value} {Z : State} (hw : HW a0 Z) : (Jvm.Cond.laysStatic "com/example/quittance/quittance/AuditEntry$Action" "PAYMENT_RECORDED" "Lcom/example/quittance/quittance/AuditEntry$Action;").before a0 Z = true := hw _ (List.mem_of_getElem? (i := 144) rfl)
theorem w145 {a0 : Array Value} {Z : State} (hw : HW a0 Z) : (Jvm.Cond.fieldLink "com/example/quittance/quittance/AuditEntryWithInvoicePinLaw" (79 : Nat) "com/example/quittance/quittance/AuditEntry$Action" "INVOICE_DRAFTED" "Lcom/example/quittance/quittance/AuditEntry$Action;").before a0 Z = true := hw _ (List.mem_of_getElem? (i := 145) rfl)
theorem w146 {a0 : Array Value} {Z : State} (hw : HW a0 Z) : (Jvm.Cond.laysStatic "com/example/quittance/quittance/AuditEntry$Action" "INVOICE_DRAFTED" "Lcom/example/quittance/quittance/AuditEntry$Action;").before a0 Z = true := hw _ (List.mem_of_getElem? (i := 146) rfl)
theorem w147 {a0 : Array Value} {Z : State} (hw : HW a0 Z) : (Jvm.Cond.fieldLink "com/example/quittance/quittance/AuditEntryWithInvoicePinLaw" (109 : Nat) "com/example/quittance/quittance/AuditEntry$Action" "CREDIT_REFUNDED" "Lcom/example/quittance/quittance/AuditEntry$Action;").before a0 Z = true := hw _ (List.mem_of_getElem? (i := 147) rfl)
theorem w148 {a0 : Array Value} {Z : State} (hw : HW a0 Z) : (Jvm.Cond.laysStatic "com/example/quittance/quittance/AuditEntry$Action" "CREDIT_REFUNDED" "Lcom/example/quittance/quittance/AuditEntry$Action;").before a0 Z = true := hw _ (List.mem_of_getElem? (i := 148) rfl)
theorem pd_0 : parseMethodDescriptor "([CIILjava/lang/Void;)V" = some ⟨[(.array .char), .int, .int, (.object "java/lang/Void")], none⟩ := by decide +kernel
theorem pd_1 : parseMethodDescriptor "([CI[BII)I" = some ⟨[(.array .char), .int, (.array .byte), .int, .int], some .int⟩ := by decide +kernel
theorem pd_2 : parseMethodDescriptor "([CII)[B" = some ⟨[(.array .char), .int, .int], some (.array .byte)⟩ := by decide +kernel
theorem pd_3 : parseMethodDescriptor "([BI)B" = some ⟨[(.array .byte), .int], some .byte⟩ := by decide +kernel
theorem pd_4 : parseMethodDescriptor "()V" = some ⟨[], none⟩ := by decide +kernel
theorem pd_5 : parseMethodDescriptor "(Lcom/example/quittance/quittance/AuditEntry$Action;Ljava/lang/String;Ljava/lang/String;Lcom/example/quittance/quittance/Amount;Ljava/lang/String;)V" = some ⟨[(.object "com/example/quittance/quittance/AuditEntry$Action"), (.object "java/lang/String"), (.object "java/lang/String"), (.object "com/example/quittance/quittance/Amount"), (.object "java/lang/String")], none⟩ := by decide +kernel
theorem pd_6 : parseMethodDescriptor "([C)V" = some ⟨[(.array .char)], none⟩ := by decide +kernel
theorem pd_7 : parseMethodDescriptor "(Ljava/lang/Object;)Z" = some ⟨[(.object "java/lang/Object")], some .boolean⟩ := by decide +kernel
theorem pd_8 : parseMethodDescriptor "()J" = some ⟨[], some .long⟩ := by decide +kernel
theorem pd_9 : parseMethodDescriptor "(I)Lcom/example/quittance/quittance/AuditEntry$Action;" = some ⟨[.int], some (.object "com/example/quittance/quittance/AuditEntry$Action")⟩ := by decide +kernel
theorem pd_10 : parseMethodDescriptor "(IZ)Ljava/lang/String;" = some ⟨[.int, .boolean], some (.object "java/lang/String")⟩ := by decide +kernel
theorem pd_11 : parseMethodDescriptor "(J)V" = some ⟨[.long], none⟩ := by decide +kernel
theorem pd_12 : parseMethodDescriptor "(Ljava/lang/String;)Lcom/example/quittance/quittance/AuditEntry;" = some ⟨[(.object "java/lang/String")], some (.object "com/example/quittance/quittance/AuditEntry")⟩ := by decide +kernel
theorem pd_13 : parseMethodDescriptor "()Lcom/example/quittance/quittance/AuditEntry$Action;" = some ⟨[], some (.object "com/example/quittance/quittance/AuditEntry$Action")⟩ := by decide +kernel
theorem pd_14 : parseMethodDescriptor "()Ljava/lang/String;" = some ⟨[], some (.object "java/lang/String")⟩ := by decide +kernel
theorem pd_15 : parseMethodDescriptor "(Ljava/lang/String;Ljava/lang/String;)Z" = some ⟨[(.object "java/lang/String"), (.object "java/lang/String")], some .boolean⟩ := by decide +kernel
theorem pd_16 : parseMethodDescriptor "()Lcom/example/quittance/quittance/Amount;" = some ⟨[], some (.object "com/example/quittance/quittance/Amount")⟩ := by decide +kernel
theorem pd_17 : parseMethodDescriptor "(Lcom/example/quittance/quittance/Amount;ZJ)Z" = some ⟨[(.object "com/example/quittance/quittance/Amount"), .boolean, .long], some .boolean⟩ := by decide +kernel
theorem pn_0 : plainName "java/lang/String" = true := by first | (simp [plainName, overriddenIn]; done) | decide +kernel
theorem pn_1 : plainName "java/lang/StringUTF16" = true := by first | (simp [plainName, overriddenIn]; done) | decide +kernel
theorem pn_2 : plainName "java/lang/Record" = true := by first | (simp [plainName, overriddenIn]; done) | decide +kernel
theorem pn_3 : plainName "com/example/quittance/quittance/Amount" = true := by first | (simp [plainName, overriddenIn]; done) | decide +kernel
theorem pn_4 : plainName "com/example/quittance/quittance/AuditEntry" = true := by first | (simp [plainName, overriddenIn]; done) | decide +kernel
theorem pn_5 : plainName "com/example/quittance/quittance/AuditEntryWithInvoicePinLaw" = true := by first | (simp [plainName, overriddenIn]; done) | decide +kernel
theorem wS {a0 : Array Value} {Z : State} (hw : HW a0 Z) : ∀ a ∈ Bundle.stringAtoms, a.before a0 Z = true := by
  intro d hd
  simp only [Bundle.stringAtoms, Bundle.sN, List.mem_cons, List.not_mem_nil, or_false] at hd
  rcases hd with rfl | rfl | rfl | rfl | rfl | rfl | rfl
  · exact (w13 hw)
  · exact (w12 hw)
  · exact (w26 hw)
  · exact (w27 hw)
  · exact (w28 hw)
  · exact (w29 hw)
  · exact (w30 hw)
theorem own_EL {a0 : Array Value} {Z : State} (hw : HW a0 Z) : EW Z a0 EL0 := EW.cons (w25 hw) (by decide) EW.nil
theorem own_na {a0 : Array Value} {Z : State} {h : Heap} {a b : Addr} {ty : FieldType} {vs : List Value} (E : Exa Z h a "java/lang/String") (hw : HW a0 Z) (A : OA Z h b ty vs) : a ≠ b := by
  obtain ⟨c, A, -⟩ := A
  exact ne_arr E (w12 hw) A
theorem d4_0 : decode jdk_42_method_149_code 0 = .ok (.aload_n 0, 1) := by decide +kernel
theorem d4_1 : decode jdk_42_method_149_code 1 = .ok (.invokespecial 1, 3) := by decide +kernel
theorem d4_4 : decode jdk_42_method_149_code 4 = .ok (.iload_n 3, 1) := by decide +kernel
theorem d4_5 : decode jdk_42_method_149_code 5 = .ok (.ifCond .ne 22, 3) := by decide +kernel
theorem d4_8 : decode jdk_42_method_149_code 8 = .ok (.aload_n 0, 1) := by decide +kernel
theorem d4_9 : decode jdk_42_method_149_code 9 = .ok (.ldc 7, 2) := by decide +kernel
theorem d4_11 : decode jdk_42_method_149_code 11 = .ok (.getfield 9, 3) := by decide +kernel
theorem d4_14 : decode jdk_42_method_149_code 14 = .ok (.putfield 9, 3) := by decide +kernel
theorem d4_17 : decode jdk_42_method_149_code 17 = .ok (.aload_n 0, 1) := by decide +kernel
theorem d4_18 : decode jdk_42_method_149_code 18 = .ok (.ldc 7, 2) := by decide +kernel
theorem d4_20 : decode jdk_42_method_149_code 20 = .ok (.getfield 15, 3) := by decide +kernel
theorem d4_23 : decode jdk_42_method_149_code 23 = .ok (.putfield 15, 3) := by decide +kernel
theorem d4_26 : decode jdk_42_method_149_code 26 = .ok (.return_, 1) := by decide +kernel
theorem d4_27 : decode jdk_42_method_149_code 27 = .ok (.getstatic 38, 3) := by decide +kernel
theorem d4_30 : decode jdk_42_method_149_code 30 = .ok (.ifCond .eq 28, 3) := by decide +kernel
theorem d4_33 : decode jdk_42_method_149_code 33 = .ok (.aload_n 1, 1) := by decide +kernel
theorem d4_34 : decode jdk_42_method_149_code 34 = .ok (.iload_n 2, 1) := by decide +kernel
theorem d4_35 : decode jdk_42_method_149_code 35 = .ok (.iload_n 3, 1) := by decide +kernel
theorem d4_36 : decode jdk_42_method_149_code 36 = .ok (.invokestatic 177, 3) := by decide +kernel
theorem d4_39 : decode jdk_42_method_149_code 39 = .ok (.astore 5, 2) := by decide +kernel
theorem d4_41 : decode jdk_42_method_149_code 41 = .ok (.aload_n 0, 1) := by decide +kernel
theorem d4_42 : decode jdk_42_method_149_code 42 = .ok (.aload 5, 2) := by decide +kernel
theorem d4_44 : decode jdk_42_method_149_code 44 = .ok (.iload_n 3, 1) := by decide +kernel
theorem d4_45 : decode jdk_42_method_149_code 45 = .ok (.invokestatic 47, 3) := by decide +kernel
theorem d4_48 : decode jdk_42_method_149_code 48 = .ok (.putfield 15, 3) := by decide +kernel
theorem d4_51 : decode jdk_42_method_149_code 51 = .ok (.aload_n 0, 1) := by decide +kernel
theorem d4_52 : decode jdk_42_method_149_code 52 = .ok (.aload 5, 2) := by decide +kernel
theorem d4_54 : decode jdk_42_method_149_code 54 = .ok (.putfield 9, 3) := by decide +kernel
theorem d4_57 : decode jdk_42_method_149_code 57 = .ok (.return_, 1) := by decide +kernel
theorem d4_58 : decode jdk_42_method_149_code 58 = .ok (.aload_n 0, 1) := by decide +kernel
theorem d4_59 : decode jdk_42_method_149_code 59 = .ok (.iconst 1, 1) := by decide +kernel
theorem d4_60 : decode jdk_42_method_149_code 60 = .ok (.putfield 15, 3) := by decide +kernel
theorem d4_63 : decode jdk_42_method_149_code 63 = .ok (.aload_n 0, 1) := by decide +kernel
theorem d4_64 : decode jdk_42_method_149_code 64 = .ok (.aload_n 1, 1) := by decide +kernel
theorem d4_65 : decode jdk_42_method_149_code 65 = .ok (.iload_n 2, 1) := by decide +kernel
theorem d4_66 : decode jdk_42_method_149_code 66 = .ok (.iload_n 3, 1) := by decide +kernel
theorem d4_67 : decode jdk_42_method_149_code 67 = .ok (.invokestatic 180, 3) := by decide +kernel
theorem d4_70 : decode jdk_42_method_149_code 70 = .ok (.putfield 9, 3) := by decide +kernel
theorem d4_73 : decode jdk_42_method_149_code 73 = .ok (.return_, 1) := by decide +kernel
set_option maxRecDepth 65536 in
set_option maxHeartbeats 40000000 in
theorem bI5_0 {l : Launch} {Z : State} {a0 : Array Value} (hw : HW a0 Z) (x0 : Addr) (x1 : Addr) {n0 : Nat} {h : Heap} (Z0 : n0 ≤ h.size) (g0 : n0 ≤ x0) (E0 : Exa Z h x0 "java/lang/String") (F0 : Fld Z h x0 "java/lang/String" "value" "[B" .null) (F1 : Fld Z h x0 "java/lang/String" "coder" "B" (.int (0 : Int32))) (A1 : OA Z h x1 .char []) : OM [x0] l Z (⟨"java/lang/String", "<init>", "([CIILjava/lang/Void;)V"⟩ : MethodName) jdk_42_method_149_code 6 none ⟨1, 4, 8, 12⟩ n0 h #[(.ref x0), (.ref x1), (.int (0 : Int32)), (.int (0 : Int32)), .null] (fun v h' => v = none ∧ Keep h h' [x0] ∧ ∃ b : Addr, Fld Z h' x0 "java/lang/String" "value" "[B" (.ref b) ∧ Fld Z h' x0 "java/lang/String" "coder" "B" (.int (0 : Int32)) ∧ OA Z h' b .byte []) 4 8 := by
  refine OM.of_body (own_EL hw) (ls := #[.val (.ref x0), .val (.ref x1), .val (.int (0 : Int32)), .val (.int (0 : Int32)), .val .null, .unset]) (plainFor_of_name pn_0) (fun m => by first | (simp [entryFrame, mkF, argsToLocals, Value.category]; done) | rfl) ?_
  intro p e s m below meth c C
  refine OG.ow (OG.aloadN C d4_0 rfl rfl (pc' := 1) rfl) ?_
  refine OG.ow (OG.initO C (w22 hw) (w23 hw) (w24 hw) d4_1 rfl (by decide) (W := 0) rfl (by decide) (pc' := 4) rfl) ?_
  refine OG.ow (OG.iloadN C d4_4 rfl (pc' := 5) rfl) ?_
  refine OG.ow (OG.ifNo C d4_5 ((if0 _ _).trans (teq (by decide : (0 : Int32) = (0 : Int32))).2) (pc' := 8) rfl) ?_
  refine OG.ow (OG.aloadN C d4_8 rfl rfl (pc' := 9) rfl) ?_
  refine OW.ldcH C rfl rfl (w25 hw) (wS hw) (by decide) (by decide) d4_9 (pc' := 11) rfl ?_
  intro a1 b2 h3 Eh3 Xa1 Ca1 Va1 Ab2 Na1
  refine OG.ow (OG.getF C (host := "") (Or.inl (w31 hw)) Via.refl Va1 d4_11 (pc' := 14) rfl) ?_
  have G4 := (Fld.ext Eh3 F0)
  have G5 := (Exa.ext Eh3 E0)
  refine OW.putF C (host := "") (Or.inl (w31 hw)) Via.refl G4 G5 (Or.inr ⟨(w27 hw), rfl, rfl⟩) (w12 hw) (ty := (.array .byte)) (by decide) rfl rfl g0 (fun _ _ S => S _ (List.mem_of_getElem? (i := 0) rfl)) d4_14 (pc' := 17) rfl ?_
  intro h6 Wh6
  have G7 := Fld.same Wh6 G4
  refine OG.ow (OG.aloadN C d4_17 rfl rfl (pc' := 18) rfl) ?_
  refine OW.ldcH C rfl rfl (w25 hw) (wS hw) (by decide) (by decide) d4_18 (pc' := 20) rfl ?_
  intro a8 b9 h10 Eh10 Xa8 Ca8 Va8 Ab9 Na8
  refine OG.ow (OG.getF C (host := "") (Or.inl (w32 hw)) Via.refl Ca8 d4_20 (pc' := 23) rfl) ?_
  have G11 := (Fld.ext Eh10 (Fld.other Wh6 (Fld.ext Eh3 F1) (Or.inr (slot_ne (Or.inr (w28 hw)) (Or.inr (w27 hw)) (by decide) (t := .byte) (t' := (.array .byte)) (by decide) (by decide)))))
  have G12 := (Exa.ext Eh10 (Exa.wr Wh6 G5))
  refine OW.putF C (host := "") (Or.inl (w32 hw)) Via.refl G11 G12 (Or.inr ⟨(w28 hw), rfl, rfl⟩) (w12 hw) (ty := .byte) (by decide) rfl rfl g0 (fun _ _ S => S _ (List.mem_of_getElem? (i := 0) rfl)) d4_23 (pc' := 26) rfl ?_
  intro h13 Wh13
  have G14 := Fld.same Wh13 G11
  refine OW.retV C d4_26 (by decide) (by decide) ?_
  have G15 := (Fld.other Wh13 (Fld.ext Eh10 G7) (Or.inr (slot_ne (Or.inr (w27 hw)) (Or.inr (w28 hw)) (by decide) (t := (.array .byte)) (t' := .byte) (by decide) (by decide))))
  have G16 := (OA.other ((OA.other Ab2 Wh6 (Ne.symm (Na1 _ (List.mem_of_getElem? (i := 0) rfl)).2)).ext Eh10) Wh13 (Ne.symm (Na1 _ (List.mem_of_getElem? (i := 0) rfl)).2))
  exact ⟨rfl, (((((Keep.refl h [x0]).ext Eh3).wr Wh6 (Or.inl (List.mem_of_getElem? (i := 0) rfl))).ext Eh10).wr Wh13 (Or.inl (List.mem_of_getElem? (i := 0) rfl))), _, G15, G14, G16⟩
theorem d3_0 : decode jdk_42_method_3_code 0 = .ok (.aload_n 0, 1) := by decide +kernel
theorem d3_1 : decode jdk_42_method_3_code 1 = .ok (.aload_n 1, 1) := by decide +kernel
theorem d3_2 : decode jdk_42_method_3_code 2 = .ok (.iconst 0, 1) := by decide +kernel
theorem d3_3 : decode jdk_42_method_3_code 3 = .ok (.aload_n 1, 1) := by decide +kernel
theorem d3_4 : decode jdk_42_method_3_code 4 = .ok (.arraylength, 1) := by decide +kernel
theorem d3_5 : decode jdk_42_method_3_code 5 = .ok (.aconst_null, 1) := by decide +kernel
theorem d3_6 : decode jdk_42_method_3_code 6 = .ok (.invokespecial 27, 3) := by decide +kernel
theorem d3_9 : decode jdk_42_method_3_code 9 = .ok (.return_, 1) := by decide +kernel
set_option maxRecDepth 65536 in
set_option maxHeartbeats 40000000 in
theorem bI1_0 {l : Launch} {Z : State} {a0 : Array Value} (hw : HW a0 Z) (x0 : Addr) (x1 : Addr) {n0 : Nat} {h : Heap} (Z0 : n0 ≤ h.size) (g0 : n0 ≤ x0) (E0 : Exa Z h x0 "java/lang/String") (F0 : Fld Z h x0 "java/lang/String" "value" "[B" .null) (F1 : Fld Z h x0 "java/lang/String" "coder" "B" (.int (0 : Int32))) (A1 : OA Z h x1 .char []) : OM [x0] l Z (⟨"java/lang/String", "<init>", "([C)V"⟩ : MethodName) jdk_42_method_3_code 2 none ⟨2, 4, 8, 29⟩ n0 h #[(.ref x0), (.ref x1)] (fun v h' => v = none ∧ Keep h h' [x0] ∧ ∃ b : Addr, Fld Z h' x0 "java/lang/String" "value" "[B" (.ref b) ∧ Fld Z h' x0 "java/lang/String" "coder" "B" (.int (0 : Int32)) ∧ OA Z h' b .byte []) 4 8 := by
  refine OM.of_body (own_EL hw) (ls := #[.val (.ref x0), .val (.ref x1)]) (plainFor_of_name pn_0) (fun m => by first | (simp [entryFrame, mkF, argsToLocals, Value.category]; done) | rfl) ?_
  intro p e s m below meth c C
  refine OG.ow (OG.aloadN C d3_0 rfl rfl (pc' := 1) rfl) ?_
  refine OG.ow (OG.aloadN C d3_1 rfl rfl (pc' := 2) rfl) ?_
  refine OG.ow (OG.iconst C d3_2 (z := (0 : Int32)) rfl (pc' := 3) rfl) ?_
  refine OG.ow (OG.aloadN C d3_3 rfl rfl (pc' := 4) rfl) ?_
  refine OG.ow (OG.arraylength C A1 (z := (0 : Int32)) (by first | rfl | decide) d3_4 (pc' := 5) rfl) ?_
  refine OG.ow (OG.aconst_null C d3_5 (pc' := 6) rfl) ?_
  refine OW.init C (w18 hw) (w19 hw) (w13 hw) (w21 hw) rfl (by decide) (bI5_0 hw x0 x1 Z0 g0 E0 F0 F1 A1) (allC (i := 0) rfl allN) d3_6 pd_0 rfl (argsL := [(.ref x1), (.int (0 : Int32)), (.int (0 : Int32)), .null]) (rest := []) rfl rfl (W := 0) rfl (by decide) (by decide) (by decide) (by decide) (pc' := 9) rfl ?_
  intro vh1 h1 qh1
  obtain ⟨rfl, Kh1, b2, Vh1, Ch1, Ab2⟩ := qh1
  refine OW.retV C d3_9 (by decide) (by decide) ?_
  exact ⟨rfl, ((Keep.refl h [x0]).trans Kh1 (allS (Or.inl (List.mem_of_getElem? (i := 0) rfl)) all0)), _, Vh1, Ch1, Ab2⟩
theorem d20_0 : decode jdk_52_method_21_code 0 = .ok (.iconst 0, 1) := by decide +kernel
theorem d20_1 : decode jdk_52_method_21_code 1 = .ok (.istore 5, 2) := by decide +kernel
theorem d20_3 : decode jdk_52_method_21_code 3 = .ok (.iload 5, 2) := by decide +kernel
theorem d20_5 : decode jdk_52_method_21_code 5 = .ok (.iload 4, 2) := by decide +kernel
theorem d20_7 : decode jdk_52_method_21_code 7 = .ok (.if_icmp .ge 37, 3) := by decide +kernel
theorem d20_10 : decode jdk_52_method_21_code 10 = .ok (.aload_n 0, 1) := by decide +kernel
theorem d20_11 : decode jdk_52_method_21_code 11 = .ok (.iload_n 1, 1) := by decide +kernel
theorem d20_12 : decode jdk_52_method_21_code 12 = .ok (.caload, 1) := by decide +kernel
theorem d20_13 : decode jdk_52_method_21_code 13 = .ok (.istore 6, 2) := by decide +kernel
theorem d20_15 : decode jdk_52_method_21_code 15 = .ok (.iload 6, 2) := by decide +kernel
theorem d20_17 : decode jdk_52_method_21_code 17 = .ok (.sipush 255, 3) := by decide +kernel
theorem d20_20 : decode jdk_52_method_21_code 20 = .ok (.if_icmp .le 6, 3) := by decide +kernel
theorem d20_23 : decode jdk_52_method_21_code 23 = .ok (.iload 5, 2) := by decide +kernel
theorem d20_25 : decode jdk_52_method_21_code 25 = .ok (.ireturn, 1) := by decide +kernel
theorem d20_26 : decode jdk_52_method_21_code 26 = .ok (.aload_n 2, 1) := by decide +kernel
theorem d20_27 : decode jdk_52_method_21_code 27 = .ok (.iload_n 3, 1) := by decide +kernel
theorem d20_28 : decode jdk_52_method_21_code 28 = .ok (.iload 6, 2) := by decide +kernel
theorem d20_30 : decode jdk_52_method_21_code 30 = .ok (.i2b, 1) := by decide +kernel
theorem d20_31 : decode jdk_52_method_21_code 31 = .ok (.bastore, 1) := by decide +kernel
theorem d20_32 : decode jdk_52_method_21_code 32 = .ok (.iinc 1 1, 3) := by decide +kernel
theorem d20_35 : decode jdk_52_method_21_code 35 = .ok (.iinc 3 1, 3) := by decide +kernel
theorem d20_38 : decode jdk_52_method_21_code 38 = .ok (.iinc 5 1, 3) := by decide +kernel
theorem d20_41 : decode jdk_52_method_21_code 41 = .ok (.goto (-38), 3) := by decide +kernel
theorem d20_44 : decode jdk_52_method_21_code 44 = .ok (.iload 4, 2) := by decide +kernel
theorem d20_46 : decode jdk_52_method_21_code 46 = .ok (.ireturn, 1) := by decide +kernel
set_option maxRecDepth 65536 in
set_option maxHeartbeats 40000000 in
theorem bC5_1 {l : Launch} {Z : State} {a0 : Array Value} (hw : HW a0 Z) (x0 : Addr) (x2 : Addr) {c0 : Int32}  {n0 : Nat} {h : Heap} (Z0 : n0 ≤ h.size) (g2 : n0 ≤ x2) (A0 : OA Z h x0 .char [(.int c0)]) (A2 : OA Z h x2 .byte [(.int (0 : Int32))]) (k0 : ¬ (255 : Int32) < c0) (hne : x0 ≠ x2) : OM [x2] l Z (⟨"java/lang/StringUTF16", "compress", "([CI[BII)I"⟩ : MethodName) jdk_52_method_21_code 7 (some .int) ⟨0, 0, 0, 0⟩ n0 h #[(.ref x0), (.int (0 : Int32)), (.ref x2), (.int (0 : Int32)), (.int (1 : Int32))] (fun v h' => v = some (.int (1 : Int32)) ∧ Keep h h' [x2] ∧ OA Z h' x2 .byte [(.int c0.toInt8.toInt32)]) 0 0 := by
  refine OM.of_body (own_EL hw) (ls := #[.val (.ref x0), .val (.int (0 : Int32)), .val (.ref x2), .val (.int (0 : Int32)), .val (.int (1 : Int32)), .unset, .unset]) (plainFor_of_name pn_1) (fun m => by first | (simp [entryFrame, mkF, argsToLocals, Value.category]; done) | rfl) ?_
  intro p e s m below meth c C
  refine OG.ow (OG.iconst C d20_0 (z := (0 : Int32)) rfl (pc' := 1) rfl) ?_
  refine OG.ow (OG.istore C d20_1 (ls' := #[.val (.ref x0), .val (.int (0 : Int32)), .val (.ref x2), .val (.int (0 : Int32)), .val (.int (1 : Int32)), .val (.int (0 : Int32)), .unset]) rfl (pc' := 3) rfl) ?_
  refine OG.ow (OG.iload C d20_3 rfl (pc' := 5) rfl) ?_
  refine OG.ow (OG.iload C d20_5 rfl (pc' := 7) rfl) ?_
  refine OG.ow (OG.icmpNo C d20_7 (tlt (by decide : (0 : Int32) < (1 : Int32))).2.1 (pc' := 10) rfl) ?_
  refine OG.ow (OG.aloadN C d20_10 rfl rfl (pc' := 11) rfl) ?_
  refine OG.ow (OG.iloadN C d20_11 rfl (pc' := 12) rfl) ?_
  refine OG.ow (OG.caload C A0 (own_ib (n := 1) rfl (by decide)) rfl d20_12 (pc' := 13) rfl) ?_
  refine OG.ow (OG.istore C d20_13 (ls' := #[.val (.ref x0), .val (.int (0 : Int32)), .val (.ref x2), .val (.int (0 : Int32)), .val (.int (1 : Int32)), .val (.int (0 : Int32)), .val (.int c0)]) rfl (pc' := 15) rfl) ?_
  refine OG.ow (OG.iload C d20_15 rfl (pc' := 17) rfl) ?_
  refine OG.ow (OG.sipush C d20_17 (z := (255 : Int32)) (by decide) (pc' := 20) rfl) ?_
  refine OG.ow (OG.icmpYes C d20_20 (flt k0).2.2.2 (by decide) (pc' := 26) (by decide)) ?_
  refine OG.ow (OG.aloadN C d20_26 rfl rfl (pc' := 27) rfl) ?_
  refine OG.ow (OG.iloadN C d20_27 rfl (pc' := 28) rfl) ?_
  refine OG.ow (OG.iload C d20_28 rfl (pc' := 30) rfl) ?_
  refine OG.ow (OG.i2b C d20_30 (pc' := 31) rfl) ?_
  refine OW.bastore C A2 (own_ib (n := 1) rfl (by decide)) g2 (fun _ _ S => S _ (List.mem_of_getElem? (i := 0) rfl)) d20_31 (pc' := 32) rfl ?_
  intro h1 Wh1
  rw [(own_nb _)] at Wh1
  have G2 : OA Z h1 x2 .byte [(.int c0.toInt8.toInt32)] := OA.same A2 Wh1
  refine OG.ow (OG.iinc C d20_32 (z := (1 : Int32)) rfl rfl (ls' := #[.val (.ref x0), .val (.int (1 : Int32)), .val (.ref x2), .val (.int (0 : Int32)), .val (.int (1 : Int32)), .val (.int (0 : Int32)), .val (.int c0)]) (by rw [show (0 : Int32) + (1 : Int32) = (1 : Int32) by decide]; rfl) (pc' := 35) rfl) ?_
  refine OG.ow (OG.iinc C d20_35 (z := (1 : Int32)) rfl rfl (ls' := #[.val (.ref x0), .val (.int (1 : Int32)), .val (.ref x2), .val (.int (1 : Int32)), .val (.int (1 : Int32)), .val (.int (0 : Int32)), .val (.int c0)]) (by rw [show (0 : Int32) + (1 : Int32) = (1 : Int32) by decide]; rfl) (pc' := 38) rfl) ?_
  refine OG.ow (OG.iinc C d20_38 (z := (1 : Int32)) rfl rfl (ls' := #[.val (.ref x0), .val (.int (1 : Int32)), .val (.ref x2), .val (.int (1 : Int32)), .val (.int (1 : Int32)), .val (.int (1 : Int32)), .val (.int c0)]) (by rw [show (0 : Int32) + (1 : Int32) = (1 : Int32) by decide]; rfl) (pc' := 41) rfl) ?_
  refine OG.ow (OG.goto C d20_41 (by decide) (pc' := 3) (by decide)) ?_
  refine OG.ow (OG.iload C d20_3 rfl (pc' := 5) rfl) ?_
  refine OG.ow (OG.iload C d20_5 rfl (pc' := 7) rfl) ?_
  refine OG.ow (OG.icmpYes C d20_7 (flt (by decide : ¬ ((1 : Int32) < (1 : Int32)))).2.1 (by decide) (pc' := 44) (by decide)) ?_
  refine OG.ow (OG.iload C d20_44 rfl (pc' := 46) rfl) ?_
  refine OW.retI C d20_46 (by decide) (by decide) ?_
  exact ⟨rfl, ((Keep.refl h [x2]).wr Wh1 (Or.inl (List.mem_of_getElem? (i := 0) rfl))), G2⟩
theorem d19_0 : decode jdk_52_method_16_code 0 = .ok (.iload_n 2, 1) := by decide +kernel
theorem d19_1 : decode jdk_52_method_16_code 1 = .ok (.newarray .byte, 2) := by decide +kernel
theorem d19_3 : decode jdk_52_method_16_code 3 = .ok (.astore_n 3, 1) := by decide +kernel
theorem d19_4 : decode jdk_52_method_16_code 4 = .ok (.aload_n 0, 1) := by decide +kernel
theorem d19_5 : decode jdk_52_method_16_code 5 = .ok (.iload_n 1, 1) := by decide +kernel
theorem d19_6 : decode jdk_52_method_16_code 6 = .ok (.aload_n 3, 1) := by decide +kernel
theorem d19_7 : decode jdk_52_method_16_code 7 = .ok (.iconst 0, 1) := by decide +kernel
theorem d19_8 : decode jdk_52_method_16_code 8 = .ok (.iload_n 2, 1) := by decide +kernel
theorem d19_9 : decode jdk_52_method_16_code 9 = .ok (.invokestatic 115, 3) := by decide +kernel
theorem d19_12 : decode jdk_52_method_16_code 12 = .ok (.istore 4, 2) := by decide +kernel
theorem d19_14 : decode jdk_52_method_16_code 14 = .ok (.iload 4, 2) := by decide +kernel
theorem d19_16 : decode jdk_52_method_16_code 16 = .ok (.iload_n 2, 1) := by decide +kernel
theorem d19_17 : decode jdk_52_method_16_code 17 = .ok (.if_icmp .eq 40, 3) := by decide +kernel
theorem d19_20 : decode jdk_52_method_16_code 20 = .ok (.aload_n 0, 1) := by decide +kernel
theorem d19_21 : decode jdk_52_method_16_code 21 = .ok (.iload_n 1, 1) := by decide +kernel
theorem d19_22 : decode jdk_52_method_16_code 22 = .ok (.iload_n 2, 1) := by decide +kernel
theorem d19_23 : decode jdk_52_method_16_code 23 = .ok (.invokestatic 119, 3) := by decide +kernel
theorem d19_26 : decode jdk_52_method_16_code 26 = .ok (.astore 5, 2) := by decide +kernel
theorem d19_28 : decode jdk_52_method_16_code 28 = .ok (.aload 5, 2) := by decide +kernel
theorem d19_30 : decode jdk_52_method_16_code 30 = .ok (.iload 4, 2) := by decide +kernel
theorem d19_32 : decode jdk_52_method_16_code 32 = .ok (.invokestatic 71, 3) := by decide +kernel
theorem d19_35 : decode jdk_52_method_16_code 35 = .ok (.sipush 255, 3) := by decide +kernel
theorem d19_38 : decode jdk_52_method_16_code 38 = .ok (.if_icmp .gt 16, 3) := by decide +kernel
theorem d19_41 : decode jdk_52_method_16_code 41 = .ok (.aload 5, 2) := by decide +kernel
theorem d19_43 : decode jdk_52_method_16_code 43 = .ok (.iconst 0, 1) := by decide +kernel
theorem d19_44 : decode jdk_52_method_16_code 44 = .ok (.aload_n 3, 1) := by decide +kernel
theorem d19_45 : decode jdk_52_method_16_code 45 = .ok (.iconst 0, 1) := by decide +kernel
theorem d19_46 : decode jdk_52_method_16_code 46 = .ok (.iload_n 2, 1) := by decide +kernel
theorem d19_47 : decode jdk_52_method_16_code 47 = .ok (.invokestatic 123, 3) := by decide +kernel
theorem d19_50 : decode jdk_52_method_16_code 50 = .ok (.iload_n 2, 1) := by decide +kernel
theorem d19_51 : decode jdk_52_method_16_code 51 = .ok (.if_icmp .eq 6, 3) := by decide +kernel
theorem d19_54 : decode jdk_52_method_16_code 54 = .ok (.aload 5, 2) := by decide +kernel
theorem d19_56 : decode jdk_52_method_16_code 56 = .ok (.areturn, 1) := by decide +kernel
theorem d19_57 : decode jdk_52_method_16_code 57 = .ok (.aload_n 3, 1) := by decide +kernel
theorem d19_58 : decode jdk_52_method_16_code 58 = .ok (.areturn, 1) := by decide +kernel
set_option maxRecDepth 65536 in
set_option maxHeartbeats 40000000 in
theorem bC3_1 {l : Launch} {Z : State} {a0 : Array Value} (hw : HW a0 Z) (x0 : Addr) {c0 : Int32}  {n0 : Nat} {h : Heap} (Z0 : n0 ≤ h.size) (A0 : OA Z h x0 .char [(.int c0)]) (k0 : ¬ (255 : Int32) < c0) : OM [] l Z (⟨"java/lang/StringUTF16", "compress", "([CII)[B"⟩ : MethodName) jdk_52_method_16_code 6 (some (.array .byte)) ⟨1, 1, 1, 18⟩ n0 h #[(.ref x0), (.int (0 : Int32)), (.int (1 : Int32))] (fun v h' => ∃ b : Addr, v = some (.ref b) ∧ h.size ≤ b ∧ Keep h h' [] ∧ OA Z h' b .byte [(.int c0.toInt8.toInt32)]) 1 1 := by
  refine OM.of_body (own_EL hw) (ls := #[.val (.ref x0), .val (.int (0 : Int32)), .val (.int (1 : Int32)), .unset, .unset, .unset]) (plainFor_of_name pn_1) (fun m => by first | (simp [entryFrame, mkF, argsToLocals, Value.category]; done) | rfl) ?_
  intro p e s m below meth c C
  refine OG.ow (OG.iloadN C d19_0 rfl (pc' := 1) rfl) ?_
  refine OW.newP C (ty := .byte) rfl (w26 hw) (by decide) (cap := 1) (by decide) (by decide) d19_1 (by decide) (by decide) (pc' := 3) rfl ?_
  intro a1 h2 ga1 Eh2 Aa1
  refine OG.ow (OG.astoreN C d19_3 rfl (ls' := #[.val (.ref x0), .val (.int (0 : Int32)), .val (.int (1 : Int32)), .val (.ref a1), .unset, .unset]) rfl (pc' := 4) rfl) ?_
  refine OG.ow (OG.aloadN C d19_4 rfl rfl (pc' := 5) rfl) ?_
  refine OG.ow (OG.iloadN C d19_5 rfl (pc' := 6) rfl) ?_
  refine OG.ow (OG.aloadN C d19_6 rfl rfl (pc' := 7) rfl) ?_
  refine OG.ow (OG.iconst C d19_7 (z := (0 : Int32)) rfl (pc' := 8) rfl) ?_
  refine OG.ow (OG.iloadN C d19_8 rfl (pc' := 9) rfl) ?_
  have G3 := (A0.ext Eh2)
  refine OW.callS C (w121 hw) (w122 hw) (w119 hw) (w123 hw) (by decide) (bC5_1 hw x0 a1 (Nat.le_trans Z0 Eh2.1) (Nat.le_trans Z0 (Nat.le_of_eq ga1)) G3 (show OA Z h2 a1 .byte [(.int (0 : Int32))] from Aa1) k0 (Nat.ne_of_lt (Nat.lt_of_lt_of_le (Nat.lt_of_lt_of_le (A0).lt (Nat.le_refl _)) (Nat.le_of_eq ga1)))) (allC (i := 0) rfl allN) d19_9 pd_1 rfl (argsL := [(.ref x0), (.int (0 : Int32)), (.ref a1), (.int (0 : Int32)), (.int (1 : Int32))]) (rest := []) rfl rfl (W := 0) rfl (by decide) (by decide) (by decide) (by decide) (pc' := 12) rfl ?_
  intro vh4 h4 qh4
  obtain ⟨rfl, Kh4, Ah4⟩ := qh4
  refine OG.ow (OG.istore C d19_12 (ls' := #[.val (.ref x0), .val (.int (0 : Int32)), .val (.int (1 : Int32)), .val (.ref a1), .val (.int (1 : Int32)), .unset]) rfl (pc' := 14) rfl) ?_
  refine OG.ow (OG.iload C d19_14 rfl (pc' := 16) rfl) ?_
  refine OG.ow (OG.iloadN C d19_16 rfl (pc' := 17) rfl) ?_
  refine OG.ow (OG.icmpYes C d19_17 (teq (by decide : (1 : Int32) = (1 : Int32))).1 (by decide) (pc' := 57) (by decide)) ?_
  refine OG.ow (OG.aloadN C d19_57 rfl rfl (pc' := 58) rfl) ?_
  refine OW.retA C rfl rfl d19_58 (by decide) (by decide) ?_
  exact ⟨_, rfl, (Nat.le_of_eq ga1), (((Keep.refl h []).ext Eh2).trans Kh4 (allS (Or.inr (Nat.le_trans (Nat.le_refl _) (Nat.le_of_eq ga1))) all0)), Ah4⟩
theorem d21_0 : decode jdk_52_method_15_code 0 = .ok (.iload_n 1, 1) := by decide +kernel
theorem d21_1 : decode jdk_52_method_15_code 1 = .ok (.aload_n 0, 1) := by decide +kernel
theorem d21_2 : decode jdk_52_method_15_code 2 = .ok (.arraylength, 1) := by decide +kernel
theorem d21_3 : decode jdk_52_method_15_code 3 = .ok (.isub, 1) := by decide +kernel
theorem d21_4 : decode jdk_52_method_15_code 4 = .ok (.bipush 31, 2) := by decide +kernel
theorem d21_6 : decode jdk_52_method_15_code 6 = .ok (.iushr, 1) := by decide +kernel
theorem d21_7 : decode jdk_52_method_15_code 7 = .ok (.i2b, 1) := by decide +kernel
theorem d21_8 : decode jdk_52_method_15_code 8 = .ok (.ireturn, 1) := by decide +kernel
set_option maxRecDepth 65536 in
set_option maxHeartbeats 40000000 in
theorem bCo_1 {l : Launch} {Z : State} {a0 : Array Value} (hw : HW a0 Z) (x0 : Addr) {c0 : Int32}  {n0 : Nat} {h : Heap} (Z0 : n0 ≤ h.size) (A0 : OA Z h x0 .byte [(.int c0.toInt8.toInt32)]) : OM [] l Z (⟨"java/lang/StringUTF16", "coderFromArrayLen", "([BI)B"⟩ : MethodName) jdk_52_method_15_code 2 (some .byte) ⟨0, 0, 0, 0⟩ n0 h #[(.ref x0), (.int (1 : Int32))] (fun v h' => v = some (.int (0 : Int32)) ∧ h' = h) 0 0 := by
  refine OM.of_body (own_EL hw) (ls := #[.val (.ref x0), .val (.int (1 : Int32))]) (plainFor_of_name pn_1) (fun m => by first | (simp [entryFrame, mkF, argsToLocals, Value.category]; done) | rfl) ?_
  intro p e s m below meth c C
  refine OG.ow (OG.iloadN C d21_0 rfl (pc' := 1) rfl) ?_
  refine OG.ow (OG.aloadN C d21_1 rfl rfl (pc' := 2) rfl) ?_
  refine OG.ow (OG.arraylength C A0 (z := (1 : Int32)) (by first | rfl | decide) d21_2 (pc' := 3) rfl) ?_
  refine OG.ow (OG.cast (OG.isub C d21_3 (pc' := 4) rfl) (own_fr (z := (0 : Int32)) (by decide))) ?_
  refine OG.ow (OG.bipush C d21_4 (z := (31 : Int32)) (by decide) (pc' := 6) rfl) ?_
  refine OG.ow (OG.cast (OG.iushr C d21_6 (pc' := 7) rfl) (own_fr (z := (0 : Int32)) (by decide))) ?_
  refine OG.ow (OG.cast (OG.i2b C d21_7 (pc' := 8) rfl) (own_fr (z := (0 : Int32)) (by decide))) ?_
  refine OW.retN (t := .byte) C (by simp) d21_8 (by decide) (by decide) ?_
  exact ⟨rfl, rfl⟩
set_option maxRecDepth 65536 in
set_option maxHeartbeats 40000000 in
theorem bI5_1 {l : Launch} {Z : State} {a0 : Array Value} (hw : HW a0 Z) (x0 : Addr) (x1 : Addr) {c0 : Int32} {cs : Int32} {n0 : Nat} {h : Heap} (Z0 : n0 ≤ h.size) (g0 : n0 ≤ x0) (E0 : Exa Z h x0 "java/lang/String") (F0 : Fld Z h x0 "java/lang/String" "value" "[B" .null) (F1 : Fld Z h x0 "java/lang/String" "coder" "B" (.int (0 : Int32))) (A1 : OA Z h x1 .char [(.int c0)]) (S0 : Sta Z h "java/lang/String" "COMPACT_STRINGS" "Z" (.int cs)) (hcs : ¬ cs = (0 : Int32)) (k0 : ¬ (255 : Int32) < c0) : OM [x0] l Z (⟨"java/lang/String", "<init>", "([CIILjava/lang/Void;)V"⟩ : MethodName) jdk_42_method_149_code 6 none ⟨2, 1, 1, 35⟩ n0 h #[(.ref x0), (.ref x1), (.int (0 : Int32)), (.int (1 : Int32)), .null] (fun v h' => v = none ∧ Keep h h' [x0] ∧ ∃ b : Addr, h.size ≤ b ∧ Fld Z h' x0 "java/lang/String" "value" "[B" (.ref b) ∧ Fld Z h' x0 "java/lang/String" "coder" "B" (.int (0 : Int32)) ∧ OA Z h' b .byte [(.int c0.toInt8.toInt32)]) 1 1 := by
  refine OM.of_body (own_EL hw) (ls := #[.val (.ref x0), .val (.ref x1), .val (.int (0 : Int32)), .val (.int (1 : Int32)), .val .null, .unset]) (plainFor_of_name pn_0) (fun m => by first | (simp [entryFrame, mkF, argsToLocals, Value.category]; done) | rfl) ?_
  intro p e s m below meth c C
  refine OG.ow (OG.aloadN C d4_0 rfl rfl (pc' := 1) rfl) ?_
  refine OG.ow (OG.initO C (w22 hw) (w23 hw) (w24 hw) d4_1 rfl (by decide) (W := 0) rfl (by decide) (pc' := 4) rfl) ?_
  refine OG.ow (OG.iloadN C d4_4 rfl (pc' := 5) rfl) ?_
  refine OG.ow (OG.ifYes C d4_5 ((if0 _ _).trans (feq (by decide : ¬ ((1 : Int32) = (0 : Int32)))).2) (by decide) (pc' := 27) (by decide)) ?_
  refine OG.ow (OG.getS C (host := "") (Or.inl (w116 hw)) Via.refl S0 d4_27 (pc' := 30) rfl) ?_
  refine OG.ow (OG.ifNo C d4_30 ((if0 _ _).trans (feq hcs).1) (pc' := 33) rfl) ?_
  refine OG.ow (OG.aloadN C d4_33 rfl rfl (pc' := 34) rfl) ?_
  refine OG.ow (OG.iloadN C d4_34 rfl (pc' := 35) rfl) ?_
  refine OG.ow (OG.iloadN C d4_35 rfl (pc' := 36) rfl) ?_
  refine OW.callS C (w117 hw) (w118 hw) (w119 hw) (w120 hw) (by decide) (bC3_1 hw x1 Z0 A1 k0) allN d4_36 pd_2 rfl (argsL := [(.ref x1), (.int (0 : Int32)), (.int (1 : Int32))]) (rest := []) rfl rfl (W := 0) rfl (by decide) (by decide) (by decide) (by decide) (pc' := 39) rfl ?_
  intro vh1 h1 qh1
  obtain ⟨a2, rfl, ga2, Kh1, Aa2⟩ := qh1
  refine OG.ow (OG.astore C d4_39 rfl (ls' := #[.val (.ref x0), .val (.ref x1), .val (.int (0 : Int32)), .val (.int (1 : Int32)), .val .null, .val (.ref a2)]) rfl (pc' := 41) rfl) ?_
  refine OG.ow (OG.aloadN C d4_41 rfl rfl (pc' := 42) rfl) ?_
  refine OG.ow (OG.aload C d4_42 rfl rfl (pc' := 44) rfl) ?_
  refine OG.ow (OG.iloadN C d4_44 rfl (pc' := 45) rfl) ?_
  refine OG.ow (OG.callS C (w124 hw) (w125 hw) (w119 hw) (w126 hw) (by decide) (bCo_1 hw a2 (Nat.le_trans Z0 Kh1.1) Aa2) allN d4_45 pd_3 rfl (argsL := [(.ref a2), (.int (1 : Int32))]) (rest := [(.ref x0)]) rfl rfl (W := 1) rfl (by decide) (by decide) (pc' := 48) rfl) ?_
  have G3 := (F1.keep Kh1 nin0)
  have G4 := (E0.keep Kh1)
  refine OW.putF C (host := "") (Or.inl (w32 hw)) Via.refl G3 G4 (Or.inr ⟨(w28 hw), rfl, rfl⟩) (w12 hw) (ty := .byte) (by decide) rfl rfl g0 (fun _ _ S => S _ (List.mem_of_getElem? (i := 0) rfl)) d4_48 (pc' := 51) rfl ?_
  intro h5 Wh5
  have G6 := Fld.same Wh5 G3
  refine OG.ow (OG.aloadN C d4_51 rfl rfl (pc' := 52) rfl) ?_
  refine OG.ow (OG.aload C d4_52 rfl rfl (pc' := 54) rfl) ?_
  have G7 := (Fld.other Wh5 (F0.keep Kh1 nin0) (Or.inr (slot_ne (Or.inr (w27 hw)) (Or.inr (w28 hw)) (by decide) (t := (.array .byte)) (t' := .byte) (by decide) (by decide))))
  have G8 := (Exa.wr Wh5 G4)
  refine OW.putF C (host := "") (Or.inl (w31 hw)) Via.refl G7 G8 (Or.inr ⟨(w27 hw), rfl, rfl⟩) (w12 hw) (ty := (.array .byte)) (by decide) rfl rfl g0 (fun _ _ S => S _ (List.mem_of_getElem? (i := 0) rfl)) d4_54 (pc' := 57) rfl ?_
  intro h9 Wh9
  have G10 := Fld.same Wh9 G7
  refine OW.retV C d4_57 (by decide) (by decide) ?_
  have G11 := (Fld.other Wh9 G6 (Or.inr (slot_ne (Or.inr (w28 hw)) (Or.inr (w27 hw)) (by decide) (t := .byte) (t' := (.array .byte)) (by decide) (by decide))))
  have G12 := (OA.other (OA.other Aa2 Wh5 (Ne.symm (Nat.ne_of_lt (Nat.lt_of_lt_of_le (Nat.lt_of_lt_of_le (E0).lt (Nat.le_refl _)) ga2)))) Wh9 (Ne.symm (Nat.ne_of_lt (Nat.lt_of_lt_of_le (Nat.lt_of_lt_of_le (E0).lt (Nat.le_refl _)) ga2))))
  exact ⟨rfl, ((((Keep.refl h [x0]).trans Kh1 all0).wr Wh5 (Or.inl (List.mem_of_getElem? (i := 0) rfl))).wr Wh9 (Or.inl (List.mem_of_getElem? (i := 0) rfl))), _, (Nat.le_trans (Nat.le_refl _) ga2), G10, G11, G12⟩
set_option maxRecDepth 65536 in
set_option maxHeartbeats 40000000 in
theorem bI1_1 {l : Launch} {Z : State} {a0 : Array Value} (hw : HW a0 Z) (x0 : Addr) (x1 : Addr) {c0 : Int32} {cs : Int32} {n0 : Nat} {h : Heap} (Z0 : n0 ≤ h.size) (g0 : n0 ≤ x0) (E0 : Exa Z h x0 "java/lang/String") (F0 : Fld Z h x0 "java/lang/String" "value" "[B" .null) (F1 : Fld Z h x0 "java/lang/String" "coder" "B" (.int (0 : Int32))) (A1 : OA Z h x1 .char [(.int c0)]) (S0 : Sta Z h "java/lang/String" "COMPACT_STRINGS" "Z" (.int cs)) (hcs : ¬ cs = (0 : Int32)) (k0 : ¬ (255 : Int32) < c0) : OM [x0] l Z (⟨"java/lang/String", "<init>", "([C)V"⟩ : MethodName) jdk_42_method_3_code 2 none ⟨3, 1, 1, 52⟩ n0 h #[(.ref x0), (.ref x1)] (fun v h' => v = none ∧ Keep h h' [x0] ∧ ∃ b : Addr, h.size ≤ b ∧ Fld Z h' x0 "java/lang/String" "value" "[B" (.ref b) ∧ Fld Z h' x0 "java/lang/String" "coder" "B" (.int (0 : Int32)) ∧ OA Z h' b .byte [(.int c0.toInt8.toInt32)]) 1 1 := by
  refine OM.of_body (own_EL hw) (ls := #[.val (.ref x0), .val (.ref x1)]) (plainFor_of_name pn_0) (fun m => by first | (simp [entryFrame, mkF, argsToLocals, Value.category]; done) | rfl) ?_
  intro p e s m below meth c C
  refine OG.ow (OG.aloadN C d3_0 rfl rfl (pc' := 1) rfl) ?_
  refine OG.ow (OG.aloadN C d3_1 rfl rfl (pc' := 2) rfl) ?_
  refine OG.ow (OG.iconst C d3_2 (z := (0 : Int32)) rfl (pc' := 3) rfl) ?_
  refine OG.ow (OG.aloadN C d3_3 rfl rfl (pc' := 4) rfl) ?_
  refine OG.ow (OG.arraylength C A1 (z := (1 : Int32)) (by first | rfl | decide) d3_4 (pc' := 5) rfl) ?_
  refine OG.ow (OG.aconst_null C d3_5 (pc' := 6) rfl) ?_
  refine OW.init C (w18 hw) (w19 hw) (w13 hw) (w21 hw) rfl (by decide) (bI5_1 hw x0 x1 Z0 g0 E0 F0 F1 A1 S0 hcs k0) (allC (i := 0) rfl allN) d3_6 pd_0 rfl (argsL := [(.ref x1), (.int (0 : Int32)), (.int (1 : Int32)), .null]) (rest := []) rfl rfl (W := 0) rfl (by decide) (by decide) (by decide) (by decide) (pc' := 9) rfl ?_
  intro vh1 h1 qh1
  obtain ⟨rfl, Kh1, a2, ga2, Vh1, Ch1, Aa2⟩ := qh1
  refine OW.retV C d3_9 (by decide) (by decide) ?_
  exact ⟨rfl, ((Keep.refl h [x0]).trans Kh1 (allS (Or.inl (List.mem_of_getElem? (i := 0) rfl)) all0)), _, ga2, Vh1, Ch1, Aa2⟩
set_option maxRecDepth 65536 in
set_option maxHeartbeats 40000000 in
theorem bC5_2 {l : Launch} {Z : State} {a0 : Array Value} (hw : HW a0 Z) (x0 : Addr) (x2 : Addr) {c0 c1 : Int32}  {n0 : Nat} {h : Heap} (Z0 : n0 ≤ h.size) (g2 : n0 ≤ x2) (A0 : OA Z h x0 .char [(.int c0), (.int c1)]) (A2 : OA Z h x2 .byte [(.int (0 : Int32)), (.int (0 : Int32))]) (k0 : ¬ (255 : Int32) < c0) (k1 : ¬ (255 : Int32) < c1) (hne : x0 ≠ x2) : OM [x2] l Z (⟨"java/lang/StringUTF16", "compress", "([CI[BII)I"⟩ : MethodName) jdk_52_method_21_code 7 (some .int) ⟨0, 0, 0, 0⟩ n0 h #[(.ref x0), (.int (0 : Int32)), (.ref x2), (.int (0 : Int32)), (.int (2 : Int32))] (fun v h' => v = some (.int (2 : Int32)) ∧ Keep h h' [x2] ∧ OA Z h' x2 .byte [(.int c0.toInt8.toInt32), (.int c1.toInt8.toInt32)]) 0 0 := by
  refine OM.of_body (own_EL hw) (ls := #[.val (.ref x0), .val (.int (0 : Int32)), .val (.ref x2), .val (.int (0 : Int32)), .val (.int (2 : Int32)), .unset, .unset]) (plainFor_of_name pn_1) (fun m => by first | (simp [entryFrame, mkF, argsToLocals, Value.category]; done) | rfl) ?_
  intro p e s m below meth c C
  refine OG.ow (OG.iconst C d20_0 (z := (0 : Int32)) rfl (pc' := 1) rfl) ?_
  refine OG.ow (OG.istore C d20_1 (ls' := #[.val (.ref x0), .val (.int (0 : Int32)), .val (.ref x2), .val (.int (0 : Int32)), .val (.int (2 : Int32)), .val (.int (0 : Int32)), .unset]) rfl (pc' := 3) rfl) ?_
  refine OG.ow (OG.iload C d20_3 rfl (pc' := 5) rfl) ?_
  refine OG.ow (OG.iload C d20_5 rfl (pc' := 7) rfl) ?_
  refine OG.ow (OG.icmpNo C d20_7 (tlt (by decide : (0 : Int32) < (2 : Int32))).2.1 (pc' := 10) rfl) ?_
  refine OG.ow (OG.aloadN C d20_10 rfl rfl (pc' := 11) rfl) ?_
  refine OG.ow (OG.iloadN C d20_11 rfl (pc' := 12) rfl) ?_
  refine OG.ow (OG.caload C A0 (own_ib (n := 2) rfl (by decide)) rfl d20_12 (pc' := 13) rfl) ?_
  refine OG.ow (OG.istore C d20_13 (ls' := #[.val (.ref x0), .val (.int (0 : Int32)), .val (.ref x2), .val (.int (0 : Int32)), .val (.int (2 : Int32)), .val (.int (0 : Int32)), .val (.int c0)]) rfl (pc' := 15) rfl) ?_
  refine OG.ow (OG.iload C d20_15 rfl (pc' := 17) rfl) ?_
  refine OG.ow (OG.sipush C d20_17 (z := (255 : Int32)) (by decide) (pc' := 20) rfl) ?_
  refine OG.ow (OG.icmpYes C d20_20 (flt k0).2.2.2 (by decide) (pc' := 26) (by decide)) ?_
  refine OG.ow (OG.aloadN C d20_26 rfl rfl (pc' := 27) rfl) ?_
  refine OG.ow (OG.iloadN C d20_27 rfl (pc' := 28) rfl) ?_
  refine OG.ow (OG.iload C d20_28 rfl (pc' := 30) rfl) ?_
  refine OG.ow (OG.i2b C d20_30 (pc' := 31) rfl) ?_
  refine OW.bastore C A2 (own_ib (n := 2) rfl (by decide)) g2 (fun _ _ S => S _ (List.mem_of_getElem? (i := 0) rfl)) d20_31 (pc' := 32) rfl ?_
  intro h1 Wh1
  rw [(own_nb _)] at Wh1
  have G2 : OA Z h1 x2 .byte [(.int c0.toInt8.toInt32), (.int (0 : Int32))] := OA.same A2 Wh1
  refine OG.ow (OG.iinc C d20_32 (z := (1 : Int32)) rfl rfl (ls' := #[.val (.ref x0), .val (.int (1 : Int32)), .val (.ref x2), .val (.int (0 : Int32)), .val (.int (2 : Int32)), .val (.int (0 : Int32)), .val (.int c0)]) (by rw [show (0 : Int32) + (1 : Int32) = (1 : Int32) by decide]; rfl) (pc' := 35) rfl) ?_
  refine OG.ow (OG.iinc C d20_35 (z := (1 : Int32)) rfl rfl (ls' := #[.val (.ref x0), .val (.int (1 : Int32)), .val (.ref x2), .val (.int (1 : Int32)), .val (.int (2 : Int32)), .val (.int (0 : Int32)), .val (.int c0)]) (by rw [show (0 : Int32) + (1 : Int32) = (1 : Int32) by decide]; rfl) (pc' := 38) rfl) ?_
  refine OG.ow (OG.iinc C d20_38 (z := (1 : Int32)) rfl rfl (ls' := #[.val (.ref x0), .val (.int (1 : Int32)), .val (.ref x2), .val (.int (1 : Int32)), .val (.int (2 : Int32)), .val (.int (1 : Int32)), .val (.int c0)]) (by rw [show (0 : Int32) + (1 : Int32) = (1 : Int32) by decide]; rfl) (pc' := 41) rfl) ?_
  refine OG.ow (OG.goto C d20_41 (by decide) (pc' := 3) (by decide)) ?_
  refine OG.ow (OG.iload C d20_3 rfl (pc' := 5) rfl) ?_
  refine OG.ow (OG.iload C d20_5 rfl (pc' := 7) rfl) ?_
  refine OG.ow (OG.icmpNo C d20_7 (tlt (by decide : (1 : Int32) < (2 : Int32))).2.1 (pc' := 10) rfl) ?_
  refine OG.ow (OG.aloadN C d20_10 rfl rfl (pc' := 11) rfl) ?_
  refine OG.ow (OG.iloadN C d20_11 rfl (pc' := 12) rfl) ?_
  have G3 := (OA.other A0 Wh1 hne)
  refine OG.ow (OG.caload C G3 (own_ib (n := 2) rfl (by decide)) rfl d20_12 (pc' := 13) rfl) ?_
  refine OG.ow (OG.istore C d20_13 (ls' := #[.val (.ref x0), .val (.int (1 : Int32)), .val (.ref x2), .val (.int (1 : Int32)), .val (.int (2 : Int32)), .val (.int (1 : Int32)), .val (.int c1)]) rfl (pc' := 15) rfl) ?_
  refine OG.ow (OG.iload C d20_15 rfl (pc' := 17) rfl) ?_
  refine OG.ow (OG.sipush C d20_17 (z := (255 : Int32)) (by decide) (pc' := 20) rfl) ?_
  refine OG.ow (OG.icmpYes C d20_20 (flt k1).2.2.2 (by decide) (pc' := 26) (by decide)) ?_
  refine OG.ow (OG.aloadN C d20_26 rfl rfl (pc' := 27) rfl) ?_
  refine OG.ow (OG.iloadN C d20_27 rfl (pc' := 28) rfl) ?_
  refine OG.ow (OG.iload C d20_28 rfl (pc' := 30) rfl) ?_
  refine OG.ow (OG.i2b C d20_30 (pc' := 31) rfl) ?_
  refine OW.bastore C G2 (own_ib (n := 2) rfl (by decide)) g2 (fun _ _ S => S _ (List.mem_of_getElem? (i := 0) rfl)) d20_31 (pc' := 32) rfl ?_
  intro h4 Wh4
  rw [(own_nb _)] at Wh4
  have G5 : OA Z h4 x2 .byte [(.int c0.toInt8.toInt32), (.int c1.toInt8.toInt32)] := OA.same G2 Wh4
  refine OG.ow (OG.iinc C d20_32 (z := (1 : Int32)) rfl rfl (ls' := #[.val (.ref x0), .val (.int (2 : Int32)), .val (.ref x2), .val (.int (1 : Int32)), .val (.int (2 : Int32)), .val (.int (1 : Int32)), .val (.int c1)]) (by rw [show (1 : Int32) + (1 : Int32) = (2 : Int32) by decide]; rfl) (pc' := 35) rfl) ?_
  refine OG.ow (OG.iinc C d20_35 (z := (1 : Int32)) rfl rfl (ls' := #[.val (.ref x0), .val (.int (2 : Int32)), .val (.ref x2), .val (.int (2 : Int32)), .val (.int (2 : Int32)), .val (.int (1 : Int32)), .val (.int c1)]) (by rw [show (1 : Int32) + (1 : Int32) = (2 : Int32) by decide]; rfl) (pc' := 38) rfl) ?_
  refine OG.ow (OG.iinc C d20_38 (z := (1 : Int32)) rfl rfl (ls' := #[.val (.ref x0), .val (.int (2 : Int32)), .val (.ref x2), .val (.int (2 : Int32)), .val (.int (2 : Int32)), .val (.int (2 : Int32)), .val (.int c1)]) (by rw [show (1 : Int32) + (1 : Int32) = (2 : Int32) by decide]; rfl) (pc' := 41) rfl) ?_
  refine OG.ow (OG.goto C d20_41 (by decide) (pc' := 3) (by decide)) ?_
  refine OG.ow (OG.iload C d20_3 rfl (pc' := 5) rfl) ?_
  refine OG.ow (OG.iload C d20_5 rfl (pc' := 7) rfl) ?_
  refine OG.ow (OG.icmpYes C d20_7 (flt (by decide : ¬ ((2 : Int32) < (2 : Int32)))).2.1 (by decide) (pc' := 44) (by decide)) ?_
  refine OG.ow (OG.iload C d20_44 rfl (pc' := 46) rfl) ?_
  refine OW.retI C d20_46 (by decide) (by decide) ?_
  exact ⟨rfl, (((Keep.refl h [x2]).wr Wh1 (Or.inl (List.mem_of_getElem? (i := 0) rfl))).wr Wh4 (Or.inl (List.mem_of_getElem? (i := 0) rfl))), G5⟩
set_option maxRecDepth 65536 in
set_option maxHeartbeats 40000000 in
theorem bC3_2 {l : Launch} {Z : State} {a0 : Array Value} (hw : HW a0 Z) (x0 : Addr) {c0 c1 : Int32}  {n0 : Nat} {h : Heap} (Z0 : n0 ≤ h.size) (A0 : OA Z h x0 .char [(.int c0), (.int c1)]) (k0 : ¬ (255 : Int32) < c0) (k1 : ¬ (255 : Int32) < c1) : OM [] l Z (⟨"java/lang/StringUTF16", "compress", "([CII)[B"⟩ : MethodName) jdk_52_method_16_code 6 (some (.array .byte)) ⟨1, 1, 2, 18⟩ n0 h #[(.ref x0), (.int (0 : Int32)), (.int (2 : Int32))] (fun v h' => ∃ b : Addr, v = some (.ref b) ∧ h.size ≤ b ∧ Keep h h' [] ∧ OA Z h' b .byte [(.int c0.toInt8.toInt32), (.int c1.toInt8.toInt32)]) 1 2 := by
  refine OM.of_body (own_EL hw) (ls := #[.val (.ref x0), .val (.int (0 : Int32)), .val (.int (2 : Int32)), .unset, .unset, .unset]) (plainFor_of_name pn_1) (fun m => by first | (simp [entryFrame, mkF, argsToLocals, Value.category]; done) | rfl) ?_
  intro p e s m below meth c C
  refine OG.ow (OG.iloadN C d19_0 rfl (pc' := 1) rfl) ?_
  refine OW.newP C (ty := .byte) rfl (w26 hw) (by decide) (cap := 2) (by decide) (by decide) d19_1 (by decide) (by decide) (pc' := 3) rfl ?_
  intro a1 h2 ga1 Eh2 Aa1
  refine OG.ow (OG.astoreN C d19_3 rfl (ls' := #[.val (.ref x0), .val (.int (0 : Int32)), .val (.int (2 : Int32)), .val (.ref a1), .unset, .unset]) rfl (pc' := 4) rfl) ?_
  refine OG.ow (OG.aloadN C d19_4 rfl rfl (pc' := 5) rfl) ?_
  refine OG.ow (OG.iloadN C d19_5 rfl (pc' := 6) rfl) ?_
  refine OG.ow (OG.aloadN C d19_6 rfl rfl (pc' := 7) rfl) ?_
  refine OG.ow (OG.iconst C d19_7 (z := (0 : Int32)) rfl (pc' := 8) rfl) ?_
  refine OG.ow (OG.iloadN C d19_8 rfl (pc' := 9) rfl) ?_
  have G3 := (A0.ext Eh2)
  refine OW.callS C (w121 hw) (w122 hw) (w119 hw) (w123 hw) (by decide) (bC5_2 hw x0 a1 (Nat.le_trans Z0 Eh2.1) (Nat.le_trans Z0 (Nat.le_of_eq ga1)) G3 (show OA Z h2 a1 .byte [(.int (0 : Int32)), (.int (0 : Int32))] from Aa1) k0 k1 (Nat.ne_of_lt (Nat.lt_of_lt_of_le (Nat.lt_of_lt_of_le (A0).lt (Nat.le_refl _)) (Nat.le_of_eq ga1)))) (allC (i := 0) rfl allN) d19_9 pd_1 rfl (argsL := [(.ref x0), (.int (0 : Int32)), (.ref a1), (.int (0 : Int32)), (.int (2 : Int32))]) (rest := []) rfl rfl (W := 0) rfl (by decide) (by decide) (by decide) (by decide) (pc' := 12) rfl ?_
  intro vh4 h4 qh4
  obtain ⟨rfl, Kh4, Ah4⟩ := qh4
  refine OG.ow (OG.istore C d19_12 (ls' := #[.val (.ref x0), .val (.int (0 : Int32)), .val (.int (2 : Int32)), .val (.ref a1), .val (.int (2 : Int32)), .unset]) rfl (pc' := 14) rfl) ?_
  refine OG.ow (OG.iload C d19_14 rfl (pc' := 16) rfl) ?_
  refine OG.ow (OG.iloadN C d19_16 rfl (pc' := 17) rfl) ?_
  refine OG.ow (OG.icmpYes C d19_17 (teq (by decide : (2 : Int32) = (2 : Int32))).1 (by decide) (pc' := 57) (by decide)) ?_
  refine OG.ow (OG.aloadN C d19_57 rfl rfl (pc' := 58) rfl) ?_
  refine OW.retA C rfl rfl d19_58 (by decide) (by decide) ?_
  exact ⟨_, rfl, (Nat.le_of_eq ga1), (((Keep.refl h []).ext Eh2).trans Kh4 (allS (Or.inr (Nat.le_trans (Nat.le_refl _) (Nat.le_of_eq ga1))) all0)), Ah4⟩
set_option maxRecDepth 65536 in
set_option maxHeartbeats 40000000 in
theorem bCo_2 {l : Launch} {Z : State} {a0 : Array Value} (hw : HW a0 Z) (x0 : Addr) {c0 c1 : Int32}  {n0 : Nat} {h : Heap} (Z0 : n0 ≤ h.size) (A0 : OA Z h x0 .byte [(.int c0.toInt8.toInt32), (.int c1.toInt8.toInt32)]) : OM [] l Z (⟨"java/lang/StringUTF16", "coderFromArrayLen", "([BI)B"⟩ : MethodName) jdk_52_method_15_code 2 (some .byte) ⟨0, 0, 0, 0⟩ n0 h #[(.ref x0), (.int (2 : Int32))] (fun v h' => v = some (.int (0 : Int32)) ∧ h' = h) 0 0 := by
  refine OM.of_body (own_EL hw) (ls := #[.val (.ref x0), .val (.int (2 : Int32))]) (plainFor_of_name pn_1) (fun m => by first | (simp [entryFrame, mkF, argsToLocals, Value.category]; done) | rfl) ?_
  intro p e s m below meth c C
  refine OG.ow (OG.iloadN C d21_0 rfl (pc' := 1) rfl) ?_
  refine OG.ow (OG.aloadN C d21_1 rfl rfl (pc' := 2) rfl) ?_
  refine OG.ow (OG.arraylength C A0 (z := (2 : Int32)) (by first | rfl | decide) d21_2 (pc' := 3) rfl) ?_
  refine OG.ow (OG.cast (OG.isub C d21_3 (pc' := 4) rfl) (own_fr (z := (0 : Int32)) (by decide))) ?_
  refine OG.ow (OG.bipush C d21_4 (z := (31 : Int32)) (by decide) (pc' := 6) rfl) ?_
  refine OG.ow (OG.cast (OG.iushr C d21_6 (pc' := 7) rfl) (own_fr (z := (0 : Int32)) (by decide))) ?_
  refine OG.ow (OG.cast (OG.i2b C d21_7 (pc' := 8) rfl) (own_fr (z := (0 : Int32)) (by decide))) ?_
  refine OW.retN (t := .byte) C (by simp) d21_8 (by decide) (by decide) ?_
  exact ⟨rfl, rfl⟩
set_option maxRecDepth 65536 in
set_option maxHeartbeats 40000000 in
theorem bI5_2 {l : Launch} {Z : State} {a0 : Array Value} (hw : HW a0 Z) (x0 : Addr) (x1 : Addr) {c0 c1 : Int32} {cs : Int32} {n0 : Nat} {h : Heap} (Z0 : n0 ≤ h.size) (g0 : n0 ≤ x0) (E0 : Exa Z h x0 "java/lang/String") (F0 : Fld Z h x0 "java/lang/String" "value" "[B" .null) (F1 : Fld Z h x0 "java/lang/String" "coder" "B" (.int (0 : Int32))) (A1 : OA Z h x1 .char [(.int c0), (.int c1)]) (S0 : Sta Z h "java/lang/String" "COMPACT_STRINGS" "Z" (.int cs)) (hcs : ¬ cs = (0 : Int32)) (k0 : ¬ (255 : Int32) < c0) (k1 : ¬ (255 : Int32) < c1) : OM [x0] l Z (⟨"java/lang/String", "<init>", "([CIILjava/lang/Void;)V"⟩ : MethodName) jdk_42_method_149_code 6 none ⟨2, 1, 2, 35⟩ n0 h #[(.ref x0), (.ref x1), (.int (0 : Int32)), (.int (2 : Int32)), .null] (fun v h' => v = none ∧ Keep h h' [x0] ∧ ∃ b : Addr, h.size ≤ b ∧ Fld Z h' x0 "java/lang/String" "value" "[B" (.ref b) ∧ Fld Z h' x0 "java/lang/String" "coder" "B" (.int (0 : Int32)) ∧ OA Z h' b .byte [(.int c0.toInt8.toInt32), (.int c1.toInt8.toInt32)]) 1 2 := by
  refine OM.of_body (own_EL hw) (ls := #[.val (.ref x0), .val (.ref x1), .val (.int (0 : Int32)), .val (.int (2 : Int32)), .val .null, .unset]) (plainFor_of_name pn_0) (fun m => by first | (simp [entryFrame, mkF, argsToLocals, Value.category]; done) | rfl) ?_
  intro p e s m below meth c C
  refine OG.ow (OG.aloadN C d4_0 rfl rfl (pc' := 1) rfl) ?_
  refine OG.ow (OG.initO C (w22 hw) (w23 hw) (w24 hw) d4_1 rfl (by decide) (W := 0) rfl (by decide) (pc' := 4) rfl) ?_
  refine OG.ow (OG.iloadN C d4_4 rfl (pc' := 5) rfl) ?_
  refine OG.ow (OG.ifYes C d4_5 ((if0 _ _).trans (feq (by decide : ¬ ((2 : Int32) = (0 : Int32)))).2) (by decide) (pc' := 27) (by decide)) ?_
  refine OG.ow (OG.getS C (host := "") (Or.inl (w116 hw)) Via.refl S0 d4_27 (pc' := 30) rfl) ?_
  refine OG.ow (OG.ifNo C d4_30 ((if0 _ _).trans (feq hcs).1) (pc' := 33) rfl) ?_
  refine OG.ow (OG.aloadN C d4_33 rfl rfl (pc' := 34) rfl) ?_
  refine OG.ow (OG.iloadN C d4_34 rfl (pc' := 35) rfl) ?_
  refine OG.ow (OG.iloadN C d4_35 rfl (pc' := 36) rfl) ?_
  refine OW.callS C (w117 hw) (w118 hw) (w119 hw) (w120 hw) (by decide) (bC3_2 hw x1 Z0 A1 k0 k1) allN d4_36 pd_2 rfl (argsL := [(.ref x1), (.int (0 : Int32)), (.int (2 : Int32))]) (rest := []) rfl rfl (W := 0) rfl (by decide) (by decide) (by decide) (by decide) (pc' := 39) rfl ?_
  intro vh1 h1 qh1
  obtain ⟨a2, rfl, ga2, Kh1, Aa2⟩ := qh1
  refine OG.ow (OG.astore C d4_39 rfl (ls' := #[.val (.ref x0), .val (.ref x1), .val (.int (0 : Int32)), .val (.int (2 : Int32)), .val .null, .val (.ref a2)]) rfl (pc' := 41) rfl) ?_
  refine OG.ow (OG.aloadN C d4_41 rfl rfl (pc' := 42) rfl) ?_
  refine OG.ow (OG.aload C d4_42 rfl rfl (pc' := 44) rfl) ?_
  refine OG.ow (OG.iloadN C d4_44 rfl (pc' := 45) rfl) ?_
  refine OG.ow (OG.callS C (w124 hw) (w125 hw) (w119 hw) (w126 hw) (by decide) (bCo_2 hw a2 (Nat.le_trans Z0 Kh1.1) Aa2) allN d4_45 pd_3 rfl (argsL := [(.ref a2), (.int (2 : Int32))]) (rest := [(.ref x0)]) rfl rfl (W := 1) rfl (by decide) (by decide) (pc' := 48) rfl) ?_
  have G3 := (F1.keep Kh1 nin0)
  have G4 := (E0.keep Kh1)
  refine OW.putF C (host := "") (Or.inl (w32 hw)) Via.refl G3 G4 (Or.inr ⟨(w28 hw), rfl, rfl⟩) (w12 hw) (ty := .byte) (by decide) rfl rfl g0 (fun _ _ S => S _ (List.mem_of_getElem? (i := 0) rfl)) d4_48 (pc' := 51) rfl ?_
  intro h5 Wh5
  have G6 := Fld.same Wh5 G3
  refine OG.ow (OG.aloadN C d4_51 rfl rfl (pc' := 52) rfl) ?_
  refine OG.ow (OG.aload C d4_52 rfl rfl (pc' := 54) rfl) ?_
  have G7 := (Fld.other Wh5 (F0.keep Kh1 nin0) (Or.inr (slot_ne (Or.inr (w27 hw)) (Or.inr (w28 hw)) (by decide) (t := (.array .byte)) (t' := .byte) (by decide) (by decide))))
  have G8 := (Exa.wr Wh5 G4)
  refine OW.putF C (host := "") (Or.inl (w31 hw)) Via.refl G7 G8 (Or.inr ⟨(w27 hw), rfl, rfl⟩) (w12 hw) (ty := (.array .byte)) (by decide) rfl rfl g0 (fun _ _ S => S _ (List.mem_of_getElem? (i := 0) rfl)) d4_54 (pc' := 57) rfl ?_
  intro h9 Wh9
  have G10 := Fld.same Wh9 G7
  refine OW.retV C d4_57 (by decide) (by decide) ?_
  have G11 := (Fld.other Wh9 G6 (Or.inr (slot_ne (Or.inr (w28 hw)) (Or.inr (w27 hw)) (by decide) (t := .byte) (t' := (.array .byte)) (by decide) (by decide))))
  have G12 := (OA.other (OA.other Aa2 Wh5 (Ne.symm (Nat.ne_of_lt (Nat.lt_of_lt_of_le (Nat.lt_of_lt_of_le (E0).lt (Nat.le_refl _)) ga2)))) Wh9 (Ne.symm (Nat.ne_of_lt (Nat.lt_of_lt_of_le (Nat.lt_of_lt_of_le (E0).lt (Nat.le_refl _)) ga2))))
  exact ⟨rfl, ((((Keep.refl h [x0]).trans Kh1 all0).wr Wh5 (Or.inl (List.mem_of_getElem? (i := 0) rfl))).wr Wh9 (Or.inl (List.mem_of_getElem? (i := 0) rfl))), _, (Nat.le_trans (Nat.le_refl _) ga2), G10, G11, G12⟩
set_option maxRecDepth 65536 in
set_option maxHeartbeats 40000000 in
theorem bI1_2 {l : Launch} {Z : State} {a0 : Array Value} (hw : HW a0 Z) (x0 : Addr) (x1 : Addr) {c0 c1 : Int32} {cs : Int32} {n0 : Nat} {h : Heap} (Z0 : n0 ≤ h.size) (g0 : n0 ≤ x0) (E0 : Exa Z h x0 "java/lang/String") (F0 : Fld Z h x0 "java/lang/String" "value" "[B" .null) (F1 : Fld Z h x0 "java/lang/String" "coder" "B" (.int (0 : Int32))) (A1 : OA Z h x1 .char [(.int c0), (.int c1)]) (S0 : Sta Z h "java/lang/String" "COMPACT_STRINGS" "Z" (.int cs)) (hcs : ¬ cs = (0 : Int32)) (k0 : ¬ (255 : Int32) < c0) (k1 : ¬ (255 : Int32) < c1) : OM [x0] l Z (⟨"java/lang/String", "<init>", "([C)V"⟩ : MethodName) jdk_42_method_3_code 2 none ⟨3, 1, 2, 52⟩ n0 h #[(.ref x0), (.ref x1)] (fun v h' => v = none ∧ Keep h h' [x0] ∧ ∃ b : Addr, h.size ≤ b ∧ Fld Z h' x0 "java/lang/String" "value" "[B" (.ref b) ∧ Fld Z h' x0 "java/lang/String" "coder" "B" (.int (0 : Int32)) ∧ OA Z h' b .byte [(.int c0.toInt8.toInt32), (.int c1.toInt8.toInt32)]) 1 2 := by
  refine OM.of_body (own_EL hw) (ls := #[.val (.ref x0), .val (.ref x1)]) (plainFor_of_name pn_0) (fun m => by first | (simp [entryFrame, mkF, argsToLocals, Value.category]; done) | rfl) ?_
  intro p e s m below meth c C
  refine OG.ow (OG.aloadN C d3_0 rfl rfl (pc' := 1) rfl) ?_
  refine OG.ow (OG.aloadN C d3_1 rfl rfl (pc' := 2) rfl) ?_
  refine OG.ow (OG.iconst C d3_2 (z := (0 : Int32)) rfl (pc' := 3) rfl) ?_
  refine OG.ow (OG.aloadN C d3_3 rfl rfl (pc' := 4) rfl) ?_
  refine OG.ow (OG.arraylength C A1 (z := (2 : Int32)) (by first | rfl | decide) d3_4 (pc' := 5) rfl) ?_
  refine OG.ow (OG.aconst_null C d3_5 (pc' := 6) rfl) ?_
  refine OW.init C (w18 hw) (w19 hw) (w13 hw) (w21 hw) rfl (by decide) (bI5_2 hw x0 x1 Z0 g0 E0 F0 F1 A1 S0 hcs k0 k1) (allC (i := 0) rfl allN) d3_6 pd_0 rfl (argsL := [(.ref x1), (.int (0 : Int32)), (.int (2 : Int32)), .null]) (rest := []) rfl rfl (W := 0) rfl (by decide) (by decide) (by decide) (by decide) (pc' := 9) rfl ?_
  intro vh1 h1 qh1
  obtain ⟨rfl, Kh1, a2, ga2, Vh1, Ch1, Aa2⟩ := qh1
  refine OW.retV C d3_9 (by decide) (by decide) ?_
  exact ⟨rfl, ((Keep.refl h [x0]).trans Kh1 (allS (Or.inl (List.mem_of_getElem? (i := 0) rfl)) all0)), _, ga2, Vh1, Ch1, Aa2⟩
set_option maxRecDepth 65536 in
set_option maxHeartbeats 40000000 in
theorem bC5_3 {l : Launch} {Z : State} {a0 : Array Value} (hw : HW a0 Z) (x0 : Addr) (x2 : Addr) {c0 c1 c2 : Int32}  {n0 : Nat} {h : Heap} (Z0 : n0 ≤ h.size) (g2 : n0 ≤ x2) (A0 : OA Z h x0 .char [(.int c0), (.int c1), (.int c2)]) (A2 : OA Z h x2 .byte [(.int (0 : Int32)), (.int (0 : Int32)), (.int (0 : Int32))]) (k0 : ¬ (255 : Int32) < c0) (k1 : ¬ (255 : Int32) < c1) (k2 : ¬ (255 : Int32) < c2) (hne : x0 ≠ x2) : OM [x2] l Z (⟨"java/lang/StringUTF16", "compress", "([CI[BII)I"⟩ : MethodName) jdk_52_method_21_code 7 (some .int) ⟨0, 0, 0, 0⟩ n0 h #[(.ref x0), (.int (0 : Int32)), (.ref x2), (.int (0 : Int32)), (.int (3 : Int32))] (fun v h' => v = some (.int (3 : Int32)) ∧ Keep h h' [x2] ∧ OA Z h' x2 .byte [(.int c0.toInt8.toInt32), (.int c1.toInt8.toInt32), (.int c2.toInt8.toInt32)]) 0 0 := by
  refine OM.of_body (own_EL hw) (ls := #[.val (.ref x0), .val (.int (0 : Int32)), .val (.ref x2), .val (.int (0 : Int32)), .val (.int (3 : Int32)), .unset, .unset]) (plainFor_of_name pn_1) (fun m => by first | (simp [entryFrame, mkF, argsToLocals, Value.category]; done) | rfl) ?_
  intro p e s m below meth c C
  refine OG.ow (OG.iconst C d20_0 (z := (0 : Int32)) rfl (pc' := 1) rfl) ?_
  refine OG.ow (OG.istore C d20_1 (ls' := #[.val (.ref x0), .val (.int (0 : Int32)), .val (.ref x2), .val (.int (0 : Int32)), .val (.int (3 : Int32)), .val (.int (0 : Int32)), .unset]) rfl (pc' := 3) rfl) ?_
  refine OG.ow (OG.iload C d20_3 rfl (pc' := 5) rfl) ?_
  refine OG.ow (OG.iload C d20_5 rfl (pc' := 7) rfl) ?_
  refine OG.ow (OG.icmpNo C d20_7 (tlt (by decide : (0 : Int32) < (3 : Int32))).2.1 (pc' := 10) rfl) ?_
  refine OG.ow (OG.aloadN C d20_10 rfl rfl (pc' := 11) rfl) ?_
  refine OG.ow (OG.iloadN C d20_11 rfl (pc' := 12) rfl) ?_
  refine OG.ow (OG.caload C A0 (own_ib (n := 3) rfl (by decide)) rfl d20_12 (pc' := 13) rfl) ?_
  refine OG.ow (OG.istore C d20_13 (ls' := #[.val (.ref x0), .val (.int (0 : Int32)), .val (.ref x2), .val (.int (0 : Int32)), .val (.int (3 : Int32)), .val (.int (0 : Int32)), .val (.int c0)]) rfl (pc' := 15) rfl) ?_
  refine OG.ow (OG.iload C d20_15 rfl (pc' := 17) rfl) ?_
  refine OG.ow (OG.sipush C d20_17 (z := (255 : Int32)) (by decide) (pc' := 20) rfl) ?_
  refine OG.ow (OG.icmpYes C d20_20 (flt k0).2.2.2 (by decide) (pc' := 26) (by decide)) ?_
  refine OG.ow (OG.aloadN C d20_26 rfl rfl (pc' := 27) rfl) ?_
  refine OG.ow (OG.iloadN C d20_27 rfl (pc' := 28) rfl) ?_
  refine OG.ow (OG.iload C d20_28 rfl (pc' := 30) rfl) ?_
  refine OG.ow (OG.i2b C d20_30 (pc' := 31) rfl) ?_
  refine OW.bastore C A2 (own_ib (n := 3) rfl (by decide)) g2 (fun _ _ S => S _ (List.mem_of_getElem? (i := 0) rfl)) d20_31 (pc' := 32) rfl ?_
  intro h1 Wh1
  rw [(own_nb _)] at Wh1
  have G2 : OA Z h1 x2 .byte [(.int c0.toInt8.toInt32), (.int (0 : Int32)), (.int (0 : Int32))] := OA.same A2 Wh1
  refine OG.ow (OG.iinc C d20_32 (z := (1 : Int32)) rfl rfl (ls' := #[.val (.ref x0), .val (.int (1 : Int32)), .val (.ref x2), .val (.int (0 : Int32)), .val (.int (3 : Int32)), .val (.int (0 : Int32)), .val (.int c0)]) (by rw [show (0 : Int32) + (1 : Int32) = (1 : Int32) by decide]; rfl) (pc' := 35) rfl) ?_
  refine OG.ow (OG.iinc C d20_35 (z := (1 : Int32)) rfl rfl (ls' := #[.val (.ref x0), .val (.int (1 : Int32)), .val (.ref x2), .val (.int (1 : Int32)), .val (.int (3 : Int32)), .val (.int (0 : Int32)), .val (.int c0)]) (by rw [show (0 : Int32) + (1 : Int32) = (1 : Int32) by decide]; rfl) (pc' := 38) rfl) ?_
  refine OG.ow (OG.iinc C d20_38 (z := (1 : Int32)) rfl rfl (ls' := #[.val (.ref x0), .val (.int (1 : Int32)), .val (.ref x2), .val (.int (1 : Int32)), .val (.int (3 : Int32)), .val (.int (1 : Int32)), .val (.int c0)]) (by rw [show (0 : Int32) + (1 : Int32) = (1 : Int32) by decide]; rfl) (pc' := 41) rfl) ?_
  refine OG.ow (OG.goto C d20_41 (by decide) (pc' := 3) (by decide)) ?_
  refine OG.ow (OG.iload C d20_3 rfl (pc' := 5) rfl) ?_
  refine OG.ow (OG.iload C d20_5 rfl (pc' := 7) rfl) ?_
  refine OG.ow (OG.icmpNo C d20_7 (tlt (by decide : (1 : Int32) < (3 : Int32))).2.1 (pc' := 10) rfl) ?_
  refine OG.ow (OG.aloadN C d20_10 rfl rfl (pc' := 11) rfl) ?_
  refine OG.ow (OG.iloadN C d20_11 rfl (pc' := 12) rfl) ?_
  have G3 := (OA.other A0 Wh1 hne)
  refine OG.ow (OG.caload C G3 (own_ib (n := 3) rfl (by decide)) rfl d20_12 (pc' := 13) rfl) ?_
  refine OG.ow (OG.istore C d20_13 (ls' := #[.val (.ref x0), .val (.int (1 : Int32)), .val (.ref x2), .val (.int (1 : Int32)), .val (.int (3 : Int32)), .val (.int (1 : Int32)), .val (.int c1)]) rfl (pc' := 15) rfl) ?_
  refine OG.ow (OG.iload C d20_15 rfl (pc' := 17) rfl) ?_
  refine OG.ow (OG.sipush C d20_17 (z := (255 : Int32)) (by decide) (pc' := 20) rfl) ?_
  refine OG.ow (OG.icmpYes C d20_20 (flt k1).2.2.2 (by decide) (pc' := 26) (by decide)) ?_
  refine OG.ow (OG.aloadN C d20_26 rfl rfl (pc' := 27) rfl) ?_
  refine OG.ow (OG.iloadN C d20_27 rfl (pc' := 28) rfl) ?_
  refine OG.ow (OG.iload C d20_28 rfl (pc' := 30) rfl) ?_
  refine OG.ow (OG.i2b C d20_30 (pc' := 31) rfl) ?_
  refine OW.bastore C G2 (own_ib (n := 3) rfl (by decide)) g2 (fun _ _ S => S _ (List.mem_of_getElem? (i := 0) rfl)) d20_31 (pc' := 32) rfl ?_
  intro h4 Wh4
  rw [(own_nb _)] at Wh4
  have G5 : OA Z h4 x2 .byte [(.int c0.toInt8.toInt32), (.int c1.toInt8.toInt32), (.int (0 : Int32))] := OA.same G2 Wh4
  refine OG.ow (OG.iinc C d20_32 (z := (1 : Int32)) rfl rfl (ls' := #[.val (.ref x0), .val (.int (2 : Int32)), .val (.ref x2), .val (.int (1 : Int32)), .val (.int (3 : Int32)), .val (.int (1 : Int32)), .val (.int c1)]) (by rw [show (1 : Int32) + (1 : Int32) = (2 : Int32) by decide]; rfl) (pc' := 35) rfl) ?_
  refine OG.ow (OG.iinc C d20_35 (z := (1 : Int32)) rfl rfl (ls' := #[.val (.ref x0), .val (.int (2 : Int32)), .val (.ref x2), .val (.int (2 : Int32)), .val (.int (3 : Int32)), .val (.int (1 : Int32)), .val (.int c1)]) (by rw [show (1 : Int32) + (1 : Int32) = (2 : Int32) by decide]; rfl) (pc' := 38) rfl) ?_
  refine OG.ow (OG.iinc C d20_38 (z := (1 : Int32)) rfl rfl (ls' := #[.val (.ref x0), .val (.int (2 : Int32)), .val (.ref x2), .val (.int (2 : Int32)), .val (.int (3 : Int32)), .val (.int (2 : Int32)), .val (.int c1)]) (by rw [show (1 : Int32) + (1 : Int32) = (2 : Int32) by decide]; rfl) (pc' := 41) rfl) ?_
  refine OG.ow (OG.goto C d20_41 (by decide) (pc' := 3) (by decide)) ?_
  refine OG.ow (OG.iload C d20_3 rfl (pc' := 5) rfl) ?_
  refine OG.ow (OG.iload C d20_5 rfl (pc' := 7) rfl) ?_
  refine OG.ow (OG.icmpNo C d20_7 (tlt (by decide : (2 : Int32) < (3 : Int32))).2.1 (pc' := 10) rfl) ?_
  refine OG.ow (OG.aloadN C d20_10 rfl rfl (pc' := 11) rfl) ?_
  refine OG.ow (OG.iloadN C d20_11 rfl (pc' := 12) rfl) ?_
  have G6 := (OA.other G3 Wh4 hne)
  refine OG.ow (OG.caload C G6 (own_ib (n := 3) rfl (by decide)) rfl d20_12 (pc' := 13) rfl) ?_
  refine OG.ow (OG.istore C d20_13 (ls' := #[.val (.ref x0), .val (.int (2 : Int32)), .val (.ref x2), .val (.int (2 : Int32)), .val (.int (3 : Int32)), .val (.int (2 : Int32)), .val (.int c2)]) rfl (pc' := 15) rfl) ?_
  refine OG.ow (OG.iload C d20_15 rfl (pc' := 17) rfl) ?_
  refine OG.ow (OG.sipush C d20_17 (z := (255 : Int32)) (by decide) (pc' := 20) rfl) ?_
  refine OG.ow (OG.icmpYes C d20_20 (flt k2).2.2.2 (by decide) (pc' := 26) (by decide)) ?_
  refine OG.ow (OG.aloadN C d20_26 rfl rfl (pc' := 27) rfl) ?_
  refine OG.ow (OG.iloadN C d20_27 rfl (pc' := 28) rfl) ?_
  refine OG.ow (OG.iload C d20_28 rfl (pc' := 30) rfl) ?_
  refine OG.ow (OG.i2b C d20_30 (pc' := 31) rfl) ?_
  refine OW.bastore C G5 (own_ib (n := 3) rfl (by decide)) g2 (fun _ _ S => S _ (List.mem_of_getElem? (i := 0) rfl)) d20_31 (pc' := 32) rfl ?_
  intro h7 Wh7
  rw [(own_nb _)] at Wh7
  have G8 : OA Z h7 x2 .byte [(.int c0.toInt8.toInt32), (.int c1.toInt8.toInt32), (.int c2.toInt8.toInt32)] := OA.same G5 Wh7
  refine OG.ow (OG.iinc C d20_32 (z := (1 : Int32)) rfl rfl (ls' := #[.val (.ref x0), .val (.int (3 : Int32)), .val (.ref x2), .val (.int (2 : Int32)), .val (.int (3 : Int32)), .val (.int (2 : Int32)), .val (.int c2)]) (by rw [show (2 : Int32) + (1 : Int32) = (3 : Int32) by decide]; rfl) (pc' := 35) rfl) ?_
  refine OG.ow (OG.iinc C d20_35 (z := (1 : Int32)) rfl rfl (ls' := #[.val (.ref x0), .val (.int (3 : Int32)), .val (.ref x2), .val (.int (3 : Int32)), .val (.int (3 : Int32)), .val (.int (2 : Int32)), .val (.int c2)]) (by rw [show (2 : Int32) + (1 : Int32) = (3 : Int32) by decide]; rfl) (pc' := 38) rfl) ?_
  refine OG.ow (OG.iinc C d20_38 (z := (1 : Int32)) rfl rfl (ls' := #[.val (.ref x0), .val (.int (3 : Int32)), .val (.ref x2), .val (.int (3 : Int32)), .val (.int (3 : Int32)), .val (.int (3 : Int32)), .val (.int c2)]) (by rw [show (2 : Int32) + (1 : Int32) = (3 : Int32) by decide]; rfl) (pc' := 41) rfl) ?_
  refine OG.ow (OG.goto C d20_41 (by decide) (pc' := 3) (by decide)) ?_
  refine OG.ow (OG.iload C d20_3 rfl (pc' := 5) rfl) ?_
  refine OG.ow (OG.iload C d20_5 rfl (pc' := 7) rfl) ?_
  refine OG.ow (OG.icmpYes C d20_7 (flt (by decide : ¬ ((3 : Int32) < (3 : Int32)))).2.1 (by decide) (pc' := 44) (by decide)) ?_
  refine OG.ow (OG.iload C d20_44 rfl (pc' := 46) rfl) ?_
  refine OW.retI C d20_46 (by decide) (by decide) ?_
  exact ⟨rfl, ((((Keep.refl h [x2]).wr Wh1 (Or.inl (List.mem_of_getElem? (i := 0) rfl))).wr Wh4 (Or.inl (List.mem_of_getElem? (i := 0) rfl))).wr Wh7 (Or.inl (List.mem_of_getElem? (i := 0) rfl))), G8⟩
set_option maxRecDepth 65536 in
set_option maxHeartbeats 40000000 in
theorem bC3_3 {l : Launch} {Z : State} {a0 : Array Value} (hw : HW a0 Z) (x0 : Addr) {c0 c1 c2 : Int32}  {n0 : Nat} {h : Heap} (Z0 : n0 ≤ h.size) (A0 : OA Z h x0 .char [(.int c0), (.int c1), (.int c2)]) (k0 : ¬ (255 : Int32) < c0) (k1 : ¬ (255 : Int32) < c1) (k2 : ¬ (255 : Int32) < c2) : OM [] l Z (⟨"java/lang/StringUTF16", "compress", "([CII)[B"⟩ : MethodName) jdk_52_method_16_code 6 (some (.array .byte)) ⟨1, 1, 3, 18⟩ n0 h #[(.ref x0), (.int (0 : Int32)), (.int (3 : Int32))] (fun v h' => ∃ b : Addr, v = some (.ref b) ∧ h.size ≤ b ∧ Keep h h' [] ∧ OA Z h' b .byte [(.int c0.toInt8.toInt32), (.int c1.toInt8.toInt32), (.int c2.toInt8.toInt32)]) 1 3 := by
  refine OM.of_body (own_EL hw) (ls := #[.val (.ref x0), .val (.int (0 : Int32)), .val (.int (3 : Int32)), .unset, .unset, .unset]) (plainFor_of_name pn_1) (fun m => by first | (simp [entryFrame, mkF, argsToLocals, Value.category]; done) | rfl) ?_
  intro p e s m below meth c C
  refine OG.ow (OG.iloadN C d19_0 rfl (pc' := 1) rfl) ?_
  refine OW.newP C (ty := .byte) rfl (w26 hw) (by decide) (cap := 3) (by decide) (by decide) d19_1 (by decide) (by decide) (pc' := 3) rfl ?_
  intro a1 h2 ga1 Eh2 Aa1
  refine OG.ow (OG.astoreN C d19_3 rfl (ls' := #[.val (.ref x0), .val (.int (0 : Int32)), .val (.int (3 : Int32)), .val (.ref a1), .unset, .unset]) rfl (pc' := 4) rfl) ?_
  refine OG.ow (OG.aloadN C d19_4 rfl rfl (pc' := 5) rfl) ?_
  refine OG.ow (OG.iloadN C d19_5 rfl (pc' := 6) rfl) ?_
  refine OG.ow (OG.aloadN C d19_6 rfl rfl (pc' := 7) rfl) ?_
  refine OG.ow (OG.iconst C d19_7 (z := (0 : Int32)) rfl (pc' := 8) rfl) ?_
  refine OG.ow (OG.iloadN C d19_8 rfl (pc' := 9) rfl) ?_
  have G3 := (A0.ext Eh2)
  refine OW.callS C (w121 hw) (w122 hw) (w119 hw) (w123 hw) (by decide) (bC5_3 hw x0 a1 (Nat.le_trans Z0 Eh2.1) (Nat.le_trans Z0 (Nat.le_of_eq ga1)) G3 (show OA Z h2 a1 .byte [(.int (0 : Int32)), (.int (0 : Int32)), (.int (0 : Int32))] from Aa1) k0 k1 k2 (Nat.ne_of_lt (Nat.lt_of_lt_of_le (Nat.lt_of_lt_of_le (A0).lt (Nat.le_refl _)) (Nat.le_of_eq ga1)))) (allC (i := 0) rfl allN) d19_9 pd_1 rfl (argsL := [(.ref x0), (.int (0 : Int32)), (.ref a1), (.int (0 : Int32)), (.int (3 : Int32))]) (rest := []) rfl rfl (W := 0) rfl (by decide) (by decide) (by decide) (by decide) (pc' := 12) rfl ?_
  intro vh4 h4 qh4
  obtain ⟨rfl, Kh4, Ah4⟩ := qh4
  refine OG.ow (OG.istore C d19_12 (ls' := #[.val (.ref x0), .val (.int (0 : Int32)), .val (.int (3 : Int32)), .val (.ref a1), .val (.int (3 : Int32)), .unset]) rfl (pc' := 14) rfl) ?_
  refine OG.ow (OG.iload C d19_14 rfl (pc' := 16) rfl) ?_
  refine OG.ow (OG.iloadN C d19_16 rfl (pc' := 17) rfl) ?_
  refine OG.ow (OG.icmpYes C d19_17 (teq (by decide : (3 : Int32) = (3 : Int32))).1 (by decide) (pc' := 57) (by decide)) ?_
  refine OG.ow (OG.aloadN C d19_57 rfl rfl (pc' := 58) rfl) ?_
  refine OW.retA C rfl rfl d19_58 (by decide) (by decide) ?_
  exact ⟨_, rfl, (Nat.le_of_eq ga1), (((Keep.refl h []).ext Eh2).trans Kh4 (allS (Or.inr (Nat.le_trans (Nat.le_refl _) (Nat.le_of_eq ga1))) all0)), Ah4⟩
set_option maxRecDepth 65536 in
set_option maxHeartbeats 40000000 in
theorem bCo_3 {l : Launch} {Z : State} {a0 : Array Value} (hw : HW a0 Z) (x0 : Addr) {c0 c1 c2 : Int32}  {n0 : Nat} {h : Heap} (Z0 : n0 ≤ h.size) (A0 : OA Z h x0 .byte [(.int c0.toInt8.toInt32), (.int c1.toInt8.toInt32), (.int c2.toInt8.toInt32)]) : OM [] l Z (⟨"java/lang/StringUTF16", "coderFromArrayLen", "([BI)B"⟩ : MethodName) jdk_52_method_15_code 2 (some .byte) ⟨0, 0, 0, 0⟩ n0 h #[(.ref x0), (.int (3 : Int32))] (fun v h' => v = some (.int (0 : Int32)) ∧ h' = h) 0 0 := by
  refine OM.of_body (own_EL hw) (ls := #[.val (.ref x0), .val (.int (3 : Int32))]) (plainFor_of_name pn_1) (fun m => by first | (simp [entryFrame, mkF, argsToLocals, Value.category]; done) | rfl) ?_
  intro p e s m below meth c C
  refine OG.ow (OG.iloadN C d21_0 rfl (pc' := 1) rfl) ?_
  refine OG.ow (OG.aloadN C d21_1 rfl rfl (pc' := 2) rfl) ?_
  refine OG.ow (OG.arraylength C A0 (z := (3 : Int32)) (by first | rfl | decide) d21_2 (pc' := 3) rfl) ?_
  refine OG.ow (OG.cast (OG.isub C d21_3 (pc' := 4) rfl) (own_fr (z := (0 : Int32)) (by decide))) ?_
  refine OG.ow (OG.bipush C d21_4 (z := (31 : Int32)) (by decide) (pc' := 6) rfl) ?_
  refine OG.ow (OG.cast (OG.iushr C d21_6 (pc' := 7) rfl) (own_fr (z := (0 : Int32)) (by decide))) ?_
  refine OG.ow (OG.cast (OG.i2b C d21_7 (pc' := 8) rfl) (own_fr (z := (0 : Int32)) (by decide))) ?_
  refine OW.retN (t := .byte) C (by simp) d21_8 (by decide) (by decide) ?_
  exact ⟨rfl, rfl⟩
set_option maxRecDepth 65536 in
set_option maxHeartbeats 40000000 in
theorem bI5_3 {l : Launch} {Z : State} {a0 : Array Value} (hw : HW a0 Z) (x0 : Addr) (x1 : Addr) {c0 c1 c2 : Int32} {cs : Int32} {n0 : Nat} {h : Heap} (Z0 : n0 ≤ h.size) (g0 : n0 ≤ x0) (E0 : Exa Z h x0 "java/lang/String") (F0 : Fld Z h x0 "java/lang/String" "value" "[B" .null) (F1 : Fld Z h x0 "java/lang/String" "coder" "B" (.int (0 : Int32))) (A1 : OA Z h x1 .char [(.int c0), (.int c1), (.int c2)]) (S0 : Sta Z h "java/lang/String" "COMPACT_STRINGS" "Z" (.int cs)) (hcs : ¬ cs = (0 : Int32)) (k0 : ¬ (255 : Int32) < c0) (k1 : ¬ (255 : Int32) < c1) (k2 : ¬ (255 : Int32) < c2) : OM [x0] l Z (⟨"java/lang/String", "<init>", "([CIILjava/lang/Void;)V"⟩ : MethodName) jdk_42_method_149_code 6 none ⟨2, 1, 3, 35⟩ n0 h #[(.ref x0), (.ref x1), (.int (0 : Int32)), (.int (3 : Int32)), .null] (fun v h' => v = none ∧ Keep h h' [x0] ∧ ∃ b : Addr, h.size ≤ b ∧ Fld Z h' x0 "java/lang/String" "value" "[B" (.ref b) ∧ Fld Z h' x0 "java/lang/String" "coder" "B" (.int (0 : Int32)) ∧ OA Z h' b .byte [(.int c0.toInt8.toInt32), (.int c1.toInt8.toInt32), (.int c2.toInt8.toInt32)]) 1 3 := by
  refine OM.of_body (own_EL hw) (ls := #[.val (.ref x0), .val (.ref x1), .val (.int (0 : Int32)), .val (.int (3 : Int32)), .val .null, .unset]) (plainFor_of_name pn_0) (fun m => by first | (simp [entryFrame, mkF, argsToLocals, Value.category]; done) | rfl) ?_
  intro p e s m below meth c C
  refine OG.ow (OG.aloadN C d4_0 rfl rfl (pc' := 1) rfl) ?_
  refine OG.ow (OG.initO C (w22 hw) (w23 hw) (w24 hw) d4_1 rfl (by decide) (W := 0) rfl (by decide) (pc' := 4) rfl) ?_
  refine OG.ow (OG.iloadN C d4_4 rfl (pc' := 5) rfl) ?_
  refine OG.ow (OG.ifYes C d4_5 ((if0 _ _).trans (feq (by decide : ¬ ((3 : Int32) = (0 : Int32)))).2) (by decide) (pc' := 27) (by decide)) ?_
  refine OG.ow (OG.getS C (host := "") (Or.inl (w116 hw)) Via.refl S0 d4_27 (pc' := 30) rfl) ?_
  refine OG.ow (OG.ifNo C d4_30 ((if0 _ _).trans (feq hcs).1) (pc' := 33) rfl) ?_
  refine OG.ow (OG.aloadN C d4_33 rfl rfl (pc' := 34) rfl) ?_
  refine OG.ow (OG.iloadN C d4_34 rfl (pc' := 35) rfl) ?_
  refine OG.ow (OG.iloadN C d4_35 rfl (pc' := 36) rfl) ?_
  refine OW.callS C (w117 hw) (w118 hw) (w119 hw) (w120 hw) (by decide) (bC3_3 hw x1 Z0 A1 k0 k1 k2) allN d4_36 pd_2 rfl (argsL := [(.ref x1), (.int (0 : Int32)), (.int (3 : Int32))]) (rest := []) rfl rfl (W := 0) rfl (by decide) (by decide) (by decide) (by decide) (pc' := 39) rfl ?_
  intro vh1 h1 qh1
  obtain ⟨a2, rfl, ga2, Kh1, Aa2⟩ := qh1
  refine OG.ow (OG.astore C d4_39 rfl (ls' := #[.val (.ref x0), .val (.ref x1), .val (.int (0 : Int32)), .val (.int (3 : Int32)), .val .null, .val (.ref a2)]) rfl (pc' := 41) rfl) ?_
  refine OG.ow (OG.aloadN C d4_41 rfl rfl (pc' := 42) rfl) ?_
  refine OG.ow (OG.aload C d4_42 rfl rfl (pc' := 44) rfl) ?_
  refine OG.ow (OG.iloadN C d4_44 rfl (pc' := 45) rfl) ?_
  refine OG.ow (OG.callS C (w124 hw) (w125 hw) (w119 hw) (w126 hw) (by decide) (bCo_3 hw a2 (Nat.le_trans Z0 Kh1.1) Aa2) allN d4_45 pd_3 rfl (argsL := [(.ref a2), (.int (3 : Int32))]) (rest := [(.ref x0)]) rfl rfl (W := 1) rfl (by decide) (by decide) (pc' := 48) rfl) ?_
  have G3 := (F1.keep Kh1 nin0)
  have G4 := (E0.keep Kh1)
  refine OW.putF C (host := "") (Or.inl (w32 hw)) Via.refl G3 G4 (Or.inr ⟨(w28 hw), rfl, rfl⟩) (w12 hw) (ty := .byte) (by decide) rfl rfl g0 (fun _ _ S => S _ (List.mem_of_getElem? (i := 0) rfl)) d4_48 (pc' := 51) rfl ?_
  intro h5 Wh5
  have G6 := Fld.same Wh5 G3
  refine OG.ow (OG.aloadN C d4_51 rfl rfl (pc' := 52) rfl) ?_
  refine OG.ow (OG.aload C d4_52 rfl rfl (pc' := 54) rfl) ?_
  have G7 := (Fld.other Wh5 (F0.keep Kh1 nin0) (Or.inr (slot_ne (Or.inr (w27 hw)) (Or.inr (w28 hw)) (by decide) (t := (.array .byte)) (t' := .byte) (by decide) (by decide))))
  have G8 := (Exa.wr Wh5 G4)
  refine OW.putF C (host := "") (Or.inl (w31 hw)) Via.refl G7 G8 (Or.inr ⟨(w27 hw), rfl, rfl⟩) (w12 hw) (ty := (.array .byte)) (by decide) rfl rfl g0 (fun _ _ S => S _ (List.mem_of_getElem? (i := 0) rfl)) d4_54 (pc' := 57) rfl ?_
  intro h9 Wh9
  have G10 := Fld.same Wh9 G7
  refine OW.retV C d4_57 (by decide) (by decide) ?_
  have G11 := (Fld.other Wh9 G6 (Or.inr (slot_ne (Or.inr (w28 hw)) (Or.inr (w27 hw)) (by decide) (t := .byte) (t' := (.array .byte)) (by decide) (by decide))))
  have G12 := (OA.other (OA.other Aa2 Wh5 (Ne.symm (Nat.ne_of_lt (Nat.lt_of_lt_of_le (Nat.lt_of_lt_of_le (E0).lt (Nat.le_refl _)) ga2)))) Wh9 (Ne.symm (Nat.ne_of_lt (Nat.lt_of_lt_of_le (Nat.lt_of_lt_of_le (E0).lt (Nat.le_refl _)) ga2))))
  exact ⟨rfl, ((((Keep.refl h [x0]).trans Kh1 all0).wr Wh5 (Or.inl (List.mem_of_getElem? (i := 0) rfl))).wr Wh9 (Or.inl (List.mem_of_getElem? (i := 0) rfl))), _, (Nat.le_trans (Nat.le_refl _) ga2), G10, G11, G12⟩
set_option maxRecDepth 65536 in
set_option maxHeartbeats 40000000 in
theorem bI1_3 {l : Launch} {Z : State} {a0 : Array Value} (hw : HW a0 Z) (x0 : Addr) (x1 : Addr) {c0 c1 c2 : Int32} {cs : Int32} {n0 : Nat} {h : Heap} (Z0 : n0 ≤ h.size) (g0 : n0 ≤ x0) (E0 : Exa Z h x0 "java/lang/String") (F0 : Fld Z h x0 "java/lang/String" "value" "[B" .null) (F1 : Fld Z h x0 "java/lang/String" "coder" "B" (.int (0 : Int32))) (A1 : OA Z h x1 .char [(.int c0), (.int c1), (.int c2)]) (S0 : Sta Z h "java/lang/String" "COMPACT_STRINGS" "Z" (.int cs)) (hcs : ¬ cs = (0 : Int32)) (k0 : ¬ (255 : Int32) < c0) (k1 : ¬ (255 : Int32) < c1) (k2 : ¬ (255 : Int32) < c2) : OM [x0] l Z (⟨"java/lang/String", "<init>", "([C)V"⟩ : MethodName) jdk_42_method_3_code 2 none ⟨3, 1, 3, 52⟩ n0 h #[(.ref x0), (.ref x1)] (fun v h' => v = none ∧ Keep h h' [x0] ∧ ∃ b : Addr, h.size ≤ b ∧ Fld Z h' x0 "java/lang/String" "value" "[B" (.ref b) ∧ Fld Z h' x0 "java/lang/String" "coder" "B" (.int (0 : Int32)) ∧ OA Z h' b .byte [(.int c0.toInt8.toInt32), (.int c1.toInt8.toInt32), (.int c2.toInt8.toInt32)]) 1 3 := by
  refine OM.of_body (own_EL hw) (ls := #[.val (.ref x0), .val (.ref x1)]) (plainFor_of_name pn_0) (fun m => by first | (simp [entryFrame, mkF, argsToLocals, Value.category]; done) | rfl) ?_
  intro p e s m below meth c C
  refine OG.ow (OG.aloadN C d3_0 rfl rfl (pc' := 1) rfl) ?_
  refine OG.ow (OG.aloadN C d3_1 rfl rfl (pc' := 2) rfl) ?_
  refine OG.ow (OG.iconst C d3_2 (z := (0 : Int32)) rfl (pc' := 3) rfl) ?_
  refine OG.ow (OG.aloadN C d3_3 rfl rfl (pc' := 4) rfl) ?_
  refine OG.ow (OG.arraylength C A1 (z := (3 : Int32)) (by first | rfl | decide) d3_4 (pc' := 5) rfl) ?_
  refine OG.ow (OG.aconst_null C d3_5 (pc' := 6) rfl) ?_
  refine OW.init C (w18 hw) (w19 hw) (w13 hw) (w21 hw) rfl (by decide) (bI5_3 hw x0 x1 Z0 g0 E0 F0 F1 A1 S0 hcs k0 k1 k2) (allC (i := 0) rfl allN) d3_6 pd_0 rfl (argsL := [(.ref x1), (.int (0 : Int32)), (.int (3 : Int32)), .null]) (rest := []) rfl rfl (W := 0) rfl (by decide) (by decide) (by decide) (by decide) (pc' := 9) rfl ?_
  intro vh1 h1 qh1
  obtain ⟨rfl, Kh1, a2, ga2, Vh1, Ch1, Aa2⟩ := qh1
  refine OW.retV C d3_9 (by decide) (by decide) ?_
  exact ⟨rfl, ((Keep.refl h [x0]).trans Kh1 (allS (Or.inl (List.mem_of_getElem? (i := 0) rfl)) all0)), _, ga2, Vh1, Ch1, Aa2⟩
theorem own_c {x c : Int32} (h : (x &&& (255 : Int32)).toUInt32.toUInt16.toUInt32.toInt32 = c) : nar .char c = c ∧ ¬ (255 : Int32) < c := by
  rw [i2c_mask] at h
  subst h
  refine ⟨?_, ?_⟩
  · show (x &&& (255 : Int32)).toUInt32.toUInt16.toUInt32.toInt32 = _
    rw [i2c_mask]
  · have := (c_and x 255 (by decide)).2
    rw [Int32.lt_iff_toInt_lt]
    have e : (255 : Int32).toInt = 255 := by decide
    omega
def SS (Z : State) (h : Heap) (v : Value) : Prop := ∀ a, v = .ref a → Exa Z h a "java/lang/String"
theorem SS.null {Z : State} {h : Heap} : SS Z h .null := fun a q => by cases q
theorem SS.of {Z : State} {h : Heap} {a : Addr} (E : Exa Z h a "java/lang/String") : SS Z h (.ref a) := fun b q => by cases q; exact E
theorem SS.ext {Z : State} {h h' : Heap} {v : Value} (E : Ext h h') (S : SS Z h v) : SS Z h' v := fun a q => Exa.ext E (S a q)
theorem SS.wr {Z : State} {h h' : Heap} {v x : Value} {a : Addr} {sl : Nat} (W : Wr h h' a sl x) (S : SS Z h v) : SS Z h' v := fun a q => Exa.wr W (S a q)
theorem SS.keep {Z : State} {h h' : Heap} {v : Value} {ws : List Addr} (S : SS Z h v) (K : Keep h h' ws) : SS Z h' v := fun a q => (S a q).keep K
theorem d7_0 : decode jdk_30_method_1_code 0 = .ok (.aload_n 0, 1) := by decide +kernel
theorem d7_1 : decode jdk_30_method_1_code 1 = .ok (.invokespecial 1, 3) := by decide +kernel
theorem d7_4 : decode jdk_30_method_1_code 4 = .ok (.return_, 1) := by decide +kernel
set_option maxRecDepth 65536 in
set_option maxHeartbeats 40000000 in
theorem b7 {l : Launch} {Z : State} {a0 : Array Value} (hw : HW a0 Z) (x0 : Addr) {n0 : Nat} {h : Heap} (Z0 : n0 ≤ h.size) : OM [] l Z (⟨"java/lang/Record", "<init>", "()V"⟩ : MethodName) jdk_30_method_1_code 1 none ⟨1, 0, 0, 12⟩ n0 h #[(.ref x0)] (fun v h' => v = none ∧ h' = h) 0 0 := by
  refine OM.of_body (own_EL hw) (ls := #[.val (.ref x0)]) (plainFor_of_name pn_2) (fun m => by first | (simp [entryFrame, mkF, argsToLocals, Value.category]; done) | rfl) ?_
  intro p e s m below meth c C
  refine OG.ow (OG.aloadN C d7_0 rfl rfl (pc' := 1) rfl) ?_
  refine OG.ow (OG.initO C (w44 hw) (w23 hw) (w24 hw) d7_1 rfl (by decide) (W := 0) rfl (by decide) (pc' := 4) rfl) ?_
  refine OW.retV C d7_4 (by decide) (by decide) ?_
  exact ⟨rfl, rfl⟩
theorem d6_0 : decode prog_2_method_1_code 0 = .ok (.aload_n 0, 1) := by decide +kernel
theorem d6_1 : decode prog_2_method_1_code 1 = .ok (.invokespecial 1, 3) := by decide +kernel
theorem d6_4 : decode prog_2_method_1_code 4 = .ok (.aload_n 0, 1) := by decide +kernel
theorem d6_5 : decode prog_2_method_1_code 5 = .ok (.lload_n 1, 1) := by decide +kernel
theorem d6_6 : decode prog_2_method_1_code 6 = .ok (.putfield 7, 3) := by decide +kernel
theorem d6_9 : decode prog_2_method_1_code 9 = .ok (.return_, 1) := by decide +kernel
set_option maxRecDepth 65536 in
set_option maxHeartbeats 40000000 in
theorem b6 {l : Launch} {Z : State} {a0 : Array Value} (hw : HW a0 Z) (x0 : Addr) (x1 : Int64) {n0 : Nat} {h : Heap} (Z0 : n0 ≤ h.size) (g0 : n0 ≤ x0) (E0 : Exa Z h x0 "com/example/quittance/quittance/Amount") (F0 : Fld Z h x0 "com/example/quittance/quittance/Amount" "cents" "J" (.long (0 : Int64))) : OM [] l Z (⟨"com/example/quittance/quittance/Amount", "<init>", "(J)V"⟩ : MethodName) prog_2_method_1_code 3 none ⟨2, 0, 0, 24⟩ n0 h #[(.ref x0), (.long x1)] (fun v h' => v = none ∧ Keep h h' [x0] ∧ Fld Z h' x0 "com/example/quittance/quittance/Amount" "cents" "J" (.long x1)) 0 0 := by
  refine OM.of_body (own_EL hw) (ls := #[.val (.ref x0), .val (.long x1), .second]) (plainFor_of_name pn_3) (fun m => by first | (simp [entryFrame, mkF, argsToLocals, Value.category]; done) | rfl) ?_
  intro p e s m below meth c C
  refine OG.ow (OG.aloadN C d6_0 rfl rfl (pc' := 1) rfl) ?_
  refine OG.ow (OG.init C (w39 hw) (w40 hw) (w42 hw) (w43 hw) rfl (by decide) (b7 hw x0 Z0) allN d6_1 pd_4 rfl (argsL := []) (rest := []) rfl rfl (W := 0) rfl (by decide) (by decide) (pc' := 4) rfl) ?_
  refine OG.ow (OG.aloadN C d6_4 rfl rfl (pc' := 5) rfl) ?_
  refine OG.ow (OG.lloadN C d6_5 rfl (pc' := 6) rfl) ?_
  refine OW.putF C (host := "") (Or.inl (w45 hw)) Via.refl F0 E0 (Or.inr ⟨(w46 hw), rfl, rfl⟩) (w34 hw) (ty := .long) (by decide) rfl rfl g0 (fun _ A _ => Safe.exa A E0 (by decide) (by decide)) d6_6 (pc' := 9) rfl ?_
  intro h1 Wh1
  have G2 := Fld.same Wh1 F0
  refine OW.retV C d6_9 (by decide) (by decide) ?_
  exact ⟨rfl, ((Keep.refl h [x0]).wr Wh1 (Or.inl (List.mem_of_getElem? (i := 0) rfl))), G2⟩
theorem d8_0 : decode prog_3_method_1_code 0 = .ok (.aload_n 0, 1) := by decide +kernel
theorem d8_1 : decode prog_3_method_1_code 1 = .ok (.invokespecial 1, 3) := by decide +kernel
theorem d8_4 : decode prog_3_method_1_code 4 = .ok (.aload_n 0, 1) := by decide +kernel
theorem d8_5 : decode prog_3_method_1_code 5 = .ok (.aload_n 1, 1) := by decide +kernel
theorem d8_6 : decode prog_3_method_1_code 6 = .ok (.putfield 7, 3) := by decide +kernel
theorem d8_9 : decode prog_3_method_1_code 9 = .ok (.aload_n 0, 1) := by decide +kernel
theorem d8_10 : decode prog_3_method_1_code 10 = .ok (.aload_n 2, 1) := by decide +kernel
theorem d8_11 : decode prog_3_method_1_code 11 = .ok (.putfield 13, 3) := by decide +kernel
theorem d8_14 : decode prog_3_method_1_code 14 = .ok (.aload_n 0, 1) := by decide +kernel
theorem d8_15 : decode prog_3_method_1_code 15 = .ok (.aload_n 3, 1) := by decide +kernel
theorem d8_16 : decode prog_3_method_1_code 16 = .ok (.putfield 17, 3) := by decide +kernel
theorem d8_19 : decode prog_3_method_1_code 19 = .ok (.aload_n 0, 1) := by decide +kernel
theorem d8_20 : decode prog_3_method_1_code 20 = .ok (.aload 4, 2) := by decide +kernel
theorem d8_22 : decode prog_3_method_1_code 22 = .ok (.putfield 20, 3) := by decide +kernel
theorem d8_25 : decode prog_3_method_1_code 25 = .ok (.aload_n 0, 1) := by decide +kernel
theorem d8_26 : decode prog_3_method_1_code 26 = .ok (.aload 5, 2) := by decide +kernel
theorem d8_28 : decode prog_3_method_1_code 28 = .ok (.putfield 24, 3) := by decide +kernel
theorem d8_31 : decode prog_3_method_1_code 31 = .ok (.return_, 1) := by decide +kernel
set_option maxRecDepth 65536 in
set_option maxHeartbeats 40000000 in
theorem b8 {l : Launch} {Z : State} {a0 : Array Value} (hw : HW a0 Z) (x0 : Addr) (x1 : Value) (rx1 : x1.isRef = true) (x2 : Value) (rx2 : x2.isRef = true) (x3 : Value) (rx3 : x3.isRef = true) (x4 : Value) (rx4 : x4.isRef = true) (x5 : Value) (rx5 : x5.isRef = true) {n0 : Nat} {h : Heap} (Z0 : n0 ≤ h.size) (g0 : n0 ≤ x0) (E0 : Exa Z h x0 "com/example/quittance/quittance/AuditEntry") (F0 : Fld Z h x0 "com/example/quittance/quittance/AuditEntry" "action" "Lcom/example/quittance/quittance/AuditEntry$Action;" .null) (F1 : Fld Z h x0 "com/example/quittance/quittance/AuditEntry" "document" "Ljava/lang/String;" .null) (F2 : Fld Z h x0 "com/example/quittance/quittance/AuditEntry" "invoice" "Ljava/lang/String;" .null) (F3 : Fld Z h x0 "com/example/quittance/quittance/AuditEntry" "amount" "Lcom/example/quittance/quittance/Amount;" .null) (F4 : Fld Z h x0 "com/example/quittance/quittance/AuditEntry" "reasonCode" "Ljava/lang/String;" .null) : OM [] l Z (⟨"com/example/quittance/quittance/AuditEntry", "<init>", "(Lcom/example/quittance/quittance/AuditEntry$Action;Ljava/lang/String;Ljava/lang/String;Lcom/example/quittance/quittance/Amount;Ljava/lang/String;)V"⟩ : MethodName) prog_3_method_1_code 6 none ⟨2, 0, 0, 24⟩ n0 h #[(.ref x0), x1, x2, x3, x4, x5] (fun v h' => v = none ∧ Keep h h' [x0] ∧ Fld Z h' x0 "com/example/quittance/quittance/AuditEntry" "action" "Lcom/example/quittance/quittance/AuditEntry$Action;" x1 ∧ Fld Z h' x0 "com/example/quittance/quittance/AuditEntry" "document" "Ljava/lang/String;" x2 ∧ Fld Z h' x0 "com/example/quittance/quittance/AuditEntry" "invoice" "Ljava/lang/String;" x3 ∧ Fld Z h' x0 "com/example/quittance/quittance/AuditEntry" "amount" "Lcom/example/quittance/quittance/Amount;" x4 ∧ Fld Z h' x0 "com/example/quittance/quittance/AuditEntry" "reasonCode" "Ljava/lang/String;" x5) 0 0 := by
  refine OM.of_body (own_EL hw) (ls := #[.val (.ref x0), .val x1, .val x2, .val x3, .val x4, .val x5]) (plainFor_of_name pn_4) (fun m => by rcases ref_cases rx1 with rfl | ⟨_, rfl⟩ <;> rcases ref_cases rx2 with rfl | ⟨_, rfl⟩ <;> rcases ref_cases rx3 with rfl | ⟨_, rfl⟩ <;> rcases ref_cases rx4 with rfl | ⟨_, rfl⟩ <;> rcases ref_cases rx5 with rfl | ⟨_, rfl⟩ <;> first | (simp [entryFrame, mkF, argsToLocals, Value.category]; done) | rfl) ?_
  intro p e s m below meth c C
  refine OG.ow (OG.aloadN C d8_0 rfl rfl (pc' := 1) rfl) ?_
  refine OG.ow (OG.init C (w53 hw) (w40 hw) (w42 hw) (w43 hw) rfl (by decide) (b7 hw x0 Z0) allN d8_1 pd_4 rfl (argsL := []) (rest := []) rfl rfl (W := 0) rfl (by decide) (by decide) (pc' := 4) rfl) ?_
  refine OG.ow (OG.aloadN C d8_4 rfl rfl (pc' := 5) rfl) ?_
  refine OG.ow (OG.aloadN C d8_5 rfl rx1 (pc' := 6) rfl) ?_
  refine OW.putF C (host := "") (Or.inl (w54 hw)) Via.refl F0 E0 (Or.inr ⟨(w55 hw), rfl, rfl⟩) (w48 hw) (ty := (.object "com/example/quittance/quittance/AuditEntry$Action")) (by decide) (own_nr rx1 rfl).1 (own_nr rx1 rfl).2 g0 (fun _ A _ => Safe.exa A E0 (by decide) (by decide)) d8_6 (pc' := 9) rfl ?_
  intro h1 Wh1
  have G2 := Fld.same Wh1 F0
  refine OG.ow (OG.aloadN C d8_9 rfl rfl (pc' := 10) rfl) ?_
  refine OG.ow (OG.aloadN C d8_10 rfl rx2 (pc' := 11) rfl) ?_
  have G3 := (Fld.other Wh1 F1 (Or.inr (slot_ne (Or.inr (w57 hw)) (Or.inr (w55 hw)) (by decide) (t := (.object "java/lang/String")) (t' := (.object "com/example/quittance/quittance/AuditEntry$Action")) (by decide) (by decide))))
  have G4 := (Exa.wr Wh1 E0)
  refine OW.putF C (host := "") (Or.inl (w56 hw)) Via.refl G3 G4 (Or.inr ⟨(w57 hw), rfl, rfl⟩) (w48 hw) (ty := (.object "java/lang/String")) (by decide) (own_nr rx2 rfl).1 (own_nr rx2 rfl).2 g0 (fun _ A _ => Safe.exa A G4 (by decide) (by decide)) d8_11 (pc' := 14) rfl ?_
  intro h5 Wh5
  have G6 := Fld.same Wh5 G3
  refine OG.ow (OG.aloadN C d8_14 rfl rfl (pc' := 15) rfl) ?_
  refine OG.ow (OG.aloadN C d8_15 rfl rx3 (pc' := 16) rfl) ?_
  have G7 := (Fld.other Wh5 (Fld.other Wh1 F2 (Or.inr (slot_ne (Or.inr (w59 hw)) (Or.inr (w55 hw)) (by decide) (t := (.object "java/lang/String")) (t' := (.object "com/example/quittance/quittance/AuditEntry$Action")) (by decide) (by decide)))) (Or.inr (slot_ne (Or.inr (w59 hw)) (Or.inr (w57 hw)) (by decide) (t := (.object "java/lang/String")) (t' := (.object "java/lang/String")) (by decide) (by decide))))
  have G8 := (Exa.wr Wh5 G4)
  refine OW.putF C (host := "") (Or.inl (w58 hw)) Via.refl G7 G8 (Or.inr ⟨(w59 hw), rfl, rfl⟩) (w48 hw) (ty := (.object "java/lang/String")) (by decide) (own_nr rx3 rfl).1 (own_nr rx3 rfl).2 g0 (fun _ A _ => Safe.exa A G8 (by decide) (by decide)) d8_16 (pc' := 19) rfl ?_
  intro h9 Wh9
  have G10 := Fld.same Wh9 G7
  refine OG.ow (OG.aloadN C d8_19 rfl rfl (pc' := 20) rfl) ?_
  refine OG.ow (OG.aload C d8_20 rfl rx4 (pc' := 22) rfl) ?_
  have G11 := (Fld.other Wh9 (Fld.other Wh5 (Fld.other Wh1 F3 (Or.inr (slot_ne (Or.inr (w61 hw)) (Or.inr (w55 hw)) (by decide) (t := (.object "com/example/quittance/quittance/Amount")) (t' := (.object "com/example/quittance/quittance/AuditEntry$Action")) (by decide) (by decide)))) (Or.inr (slot_ne (Or.inr (w61 hw)) (Or.inr (w57 hw)) (by decide) (t := (.object "com/example/quittance/quittance/Amount")) (t' := (.object "java/lang/String")) (by decide) (by decide)))) (Or.inr (slot_ne (Or.inr (w61 hw)) (Or.inr (w59 hw)) (by decide) (t := (.object "com/example/quittance/quittance/Amount")) (t' := (.object "java/lang/String")) (by decide) (by decide))))
  have G12 := (Exa.wr Wh9 G8)
  refine OW.putF C (host := "") (Or.inl (w60 hw)) Via.refl G11 G12 (Or.inr ⟨(w61 hw), rfl, rfl⟩) (w48 hw) (ty := (.object "com/example/quittance/quittance/Amount")) (by decide) (own_nr rx4 rfl).1 (own_nr rx4 rfl).2 g0 (fun _ A _ => Safe.exa A G12 (by decide) (by decide)) d8_22 (pc' := 25) rfl ?_
  intro h13 Wh13
  have G14 := Fld.same Wh13 G11
  refine OG.ow (OG.aloadN C d8_25 rfl rfl (pc' := 26) rfl) ?_
  refine OG.ow (OG.aload C d8_26 rfl rx5 (pc' := 28) rfl) ?_
  have G15 := (Fld.other Wh13 (Fld.other Wh9 (Fld.other Wh5 (Fld.other Wh1 F4 (Or.inr (slot_ne (Or.inr (w63 hw)) (Or.inr (w55 hw)) (by decide) (t := (.object "java/lang/String")) (t' := (.object "com/example/quittance/quittance/AuditEntry$Action")) (by decide) (by decide)))) (Or.inr (slot_ne (Or.inr (w63 hw)) (Or.inr (w57 hw)) (by decide) (t := (.object "java/lang/String")) (t' := (.object "java/lang/String")) (by decide) (by decide)))) (Or.inr (slot_ne (Or.inr (w63 hw)) (Or.inr (w59 hw)) (by decide) (t := (.object "java/lang/String")) (t' := (.object "java/lang/String")) (by decide) (by decide)))) (Or.inr (slot_ne (Or.inr (w63 hw)) (Or.inr (w61 hw)) (by decide) (t := (.object "java/lang/String")) (t' := (.object "com/example/quittance/quittance/Amount")) (by decide) (by decide))))
  have G16 := (Exa.wr Wh13 G12)
  refine OW.putF C (host := "") (Or.inl (w62 hw)) Via.refl G15 G16 (Or.inr ⟨(w63 hw), rfl, rfl⟩) (w48 hw) (ty := (.object "java/lang/String")) (by decide) (own_nr rx5 rfl).1 (own_nr rx5 rfl).2 g0 (fun _ A _ => Safe.exa A G16 (by decide) (by decide)) d8_28 (pc' := 31) rfl ?_
  intro h17 Wh17
  have G18 := Fld.same Wh17 G15
  refine OW.retV C d8_31 (by decide) (by decide) ?_
  have G19 := (Fld.other Wh17 (Fld.other Wh13 (Fld.other Wh9 (Fld.other Wh5 G2 (Or.inr (slot_ne (Or.inr (w55 hw)) (Or.inr (w57 hw)) (by decide) (t := (.object "com/example/quittance/quittance/AuditEntry$Action")) (t' := (.object "java/lang/String")) (by decide) (by decide)))) (Or.inr (slot_ne (Or.inr (w55 hw)) (Or.inr (w59 hw)) (by decide) (t := (.object "com/example/quittance/quittance/AuditEntry$Action")) (t' := (.object "java/lang/String")) (by decide) (by decide)))) (Or.inr (slot_ne (Or.inr (w55 hw)) (Or.inr (w61 hw)) (by decide) (t := (.object "com/example/quittance/quittance/AuditEntry$Action")) (t' := (.object "com/example/quittance/quittance/Amount")) (by decide) (by decide)))) (Or.inr (slot_ne (Or.inr (w55 hw)) (Or.inr (w63 hw)) (by decide) (t := (.object "com/example/quittance/quittance/AuditEntry$Action")) (t' := (.object "java/lang/String")) (by decide) (by decide))))
  have G20 := (Fld.other Wh17 (Fld.other Wh13 (Fld.other Wh9 G6 (Or.inr (slot_ne (Or.inr (w57 hw)) (Or.inr (w59 hw)) (by decide) (t := (.object "java/lang/String")) (t' := (.object "java/lang/String")) (by decide) (by decide)))) (Or.inr (slot_ne (Or.inr (w57 hw)) (Or.inr (w61 hw)) (by decide) (t := (.object "java/lang/String")) (t' := (.object "com/example/quittance/quittance/Amount")) (by decide) (by decide)))) (Or.inr (slot_ne (Or.inr (w57 hw)) (Or.inr (w63 hw)) (by decide) (t := (.object "java/lang/String")) (t' := (.object "java/lang/String")) (by decide) (by decide))))
  have G21 := (Fld.other Wh17 (Fld.other Wh13 G10 (Or.inr (slot_ne (Or.inr (w59 hw)) (Or.inr (w61 hw)) (by decide) (t := (.object "java/lang/String")) (t' := (.object "com/example/quittance/quittance/Amount")) (by decide) (by decide)))) (Or.inr (slot_ne (Or.inr (w59 hw)) (Or.inr (w63 hw)) (by decide) (t := (.object "java/lang/String")) (t' := (.object "java/lang/String")) (by decide) (by decide))))
  have G22 := (Fld.other Wh17 G14 (Or.inr (slot_ne (Or.inr (w61 hw)) (Or.inr (w63 hw)) (by decide) (t := (.object "com/example/quittance/quittance/Amount")) (t' := (.object "java/lang/String")) (by decide) (by decide))))
  exact ⟨rfl, ((((((Keep.refl h [x0]).wr Wh1 (Or.inl (List.mem_of_getElem? (i := 0) rfl))).wr Wh5 (Or.inl (List.mem_of_getElem? (i := 0) rfl))).wr Wh9 (Or.inl (List.mem_of_getElem? (i := 0) rfl))).wr Wh13 (Or.inl (List.mem_of_getElem? (i := 0) rfl))).wr Wh17 (Or.inl (List.mem_of_getElem? (i := 0) rfl))), G19, G20, G21, G22, G18⟩
theorem d10_0 : decode prog_3_method_9_code 0 = .ok (.aload_n 0, 1) := by decide +kernel
theorem d10_1 : decode prog_3_method_9_code 1 = .ok (.getfield 7, 3) := by decide +kernel
theorem d10_4 : decode prog_3_method_9_code 4 = .ok (.areturn, 1) := by decide +kernel
set_option maxRecDepth 65536 in
set_option maxHeartbeats 40000000 in
theorem b10 {l : Launch} {Z : State} {a0 : Array Value} (hw : HW a0 Z) (x0 : Addr) {q : Value} (rq : q.isRef = true) {n0 : Nat} {h : Heap} (Z0 : n0 ≤ h.size) (F0 : Fld Z h x0 "com/example/quittance/quittance/AuditEntry" "action" "Lcom/example/quittance/quittance/AuditEntry$Action;" q) : OM [] l Z (⟨"com/example/quittance/quittance/AuditEntry", "action", "()Lcom/example/quittance/quittance/AuditEntry$Action;"⟩ : MethodName) prog_3_method_9_code 1 (some (.object "com/example/quittance/quittance/AuditEntry$Action")) ⟨0, 0, 0, 0⟩ n0 h #[(.ref x0)] (fun v h' => v = some q ∧ h' = h) 0 0 := by
  refine OM.of_body (own_EL hw) (ls := #[.val (.ref x0)]) (plainFor_of_name pn_4) (fun m => by first | (simp [entryFrame, mkF, argsToLocals, Value.category]; done) | rfl) ?_
  intro p e s m below meth c C
  refine OG.ow (OG.aloadN C d10_0 rfl rfl (pc' := 1) rfl) ?_
  refine OG.ow (OG.getF C (host := "") (Or.inl (w54 hw)) Via.refl F0 d10_1 (pc' := 4) rfl) ?_
  refine OW.retA C rfl rq d10_4 (by decide) (by decide) ?_
  exact ⟨rfl, rfl⟩
theorem d11_0 : decode prog_3_method_10_code 0 = .ok (.aload_n 0, 1) := by decide +kernel
theorem d11_1 : decode prog_3_method_10_code 1 = .ok (.getfield 13, 3) := by decide +kernel
theorem d11_4 : decode prog_3_method_10_code 4 = .ok (.areturn, 1) := by decide +kernel
set_option maxRecDepth 65536 in
set_option maxHeartbeats 40000000 in
theorem b11 {l : Launch} {Z : State} {a0 : Array Value} (hw : HW a0 Z) (x0 : Addr) {q : Value} (rq : q.isRef = true) {n0 : Nat} {h : Heap} (Z0 : n0 ≤ h.size) (F0 : Fld Z h x0 "com/example/quittance/quittance/AuditEntry" "document" "Ljava/lang/String;" q) : OM [] l Z (⟨"com/example/quittance/quittance/AuditEntry", "document", "()Ljava/lang/String;"⟩ : MethodName) prog_3_method_10_code 1 (some (.object "java/lang/String")) ⟨0, 0, 0, 0⟩ n0 h #[(.ref x0)] (fun v h' => v = some q ∧ h' = h) 0 0 := by
  refine OM.of_body (own_EL hw) (ls := #[.val (.ref x0)]) (plainFor_of_name pn_4) (fun m => by first | (simp [entryFrame, mkF, argsToLocals, Value.category]; done) | rfl) ?_
  intro p e s m below meth c C
  refine OG.ow (OG.aloadN C d11_0 rfl rfl (pc' := 1) rfl) ?_
  refine OG.ow (OG.getF C (host := "") (Or.inl (w56 hw)) Via.refl F0 d11_1 (pc' := 4) rfl) ?_
  refine OW.retA C rfl rq d11_4 (by decide) (by decide) ?_
  exact ⟨rfl, rfl⟩
theorem d14_0 : decode prog_3_method_11_code 0 = .ok (.aload_n 0, 1) := by decide +kernel
theorem d14_1 : decode prog_3_method_11_code 1 = .ok (.getfield 17, 3) := by decide +kernel
theorem d14_4 : decode prog_3_method_11_code 4 = .ok (.areturn, 1) := by decide +kernel
set_option maxRecDepth 65536 in
set_option maxHeartbeats 40000000 in
theorem b14 {l : Launch} {Z : State} {a0 : Array Value} (hw : HW a0 Z) (x0 : Addr) {q : Value} (rq : q.isRef = true) {n0 : Nat} {h : Heap} (Z0 : n0 ≤ h.size) (F0 : Fld Z h x0 "com/example/quittance/quittance/AuditEntry" "invoice" "Ljava/lang/String;" q) : OM [] l Z (⟨"com/example/quittance/quittance/AuditEntry", "invoice", "()Ljava/lang/String;"⟩ : MethodName) prog_3_method_11_code 1 (some (.object "java/lang/String")) ⟨0, 0, 0, 0⟩ n0 h #[(.ref x0)] (fun v h' => v = some q ∧ h' = h) 0 0 := by
  refine OM.of_body (own_EL hw) (ls := #[.val (.ref x0)]) (plainFor_of_name pn_4) (fun m => by first | (simp [entryFrame, mkF, argsToLocals, Value.category]; done) | rfl) ?_
  intro p e s m below meth c C
  refine OG.ow (OG.aloadN C d14_0 rfl rfl (pc' := 1) rfl) ?_
  refine OG.ow (OG.getF C (host := "") (Or.inl (w58 hw)) Via.refl F0 d14_1 (pc' := 4) rfl) ?_
  refine OW.retA C rfl rq d14_4 (by decide) (by decide) ?_
  exact ⟨rfl, rfl⟩
theorem d15_0 : decode prog_3_method_12_code 0 = .ok (.aload_n 0, 1) := by decide +kernel
theorem d15_1 : decode prog_3_method_12_code 1 = .ok (.getfield 20, 3) := by decide +kernel
theorem d15_4 : decode prog_3_method_12_code 4 = .ok (.areturn, 1) := by decide +kernel
set_option maxRecDepth 65536 in
set_option maxHeartbeats 40000000 in
theorem b15 {l : Launch} {Z : State} {a0 : Array Value} (hw : HW a0 Z) (x0 : Addr) {q : Value} (rq : q.isRef = true) {n0 : Nat} {h : Heap} (Z0 : n0 ≤ h.size) (F0 : Fld Z h x0 "com/example/quittance/quittance/AuditEntry" "amount" "Lcom/example/quittance/quittance/Amount;" q) : OM [] l Z (⟨"com/example/quittance/quittance/AuditEntry", "amount", "()Lcom/example/quittance/quittance/Amount;"⟩ : MethodName) prog_3_method_12_code 1 (some (.object "com/example/quittance/quittance/Amount")) ⟨0, 0, 0, 0⟩ n0 h #[(.ref x0)] (fun v h' => v = some q ∧ h' = h) 0 0 := by
  refine OM.of_body (own_EL hw) (ls := #[.val (.ref x0)]) (plainFor_of_name pn_4) (fun m => by first | (simp [entryFrame, mkF, argsToLocals, Value.category]; done) | rfl) ?_
  intro p e s m below meth c C
  refine OG.ow (OG.aloadN C d15_0 rfl rfl (pc' := 1) rfl) ?_
  refine OG.ow (OG.getF C (host := "") (Or.inl (w60 hw)) Via.refl F0 d15_1 (pc' := 4) rfl) ?_
  refine OW.retA C rfl rq d15_4 (by decide) (by decide) ?_
  exact ⟨rfl, rfl⟩
theorem d18_0 : decode prog_3_method_13_code 0 = .ok (.aload_n 0, 1) := by decide +kernel
theorem d18_1 : decode prog_3_method_13_code 1 = .ok (.getfield 24, 3) := by decide +kernel
theorem d18_4 : decode prog_3_method_13_code 4 = .ok (.areturn, 1) := by decide +kernel
set_option maxRecDepth 65536 in
set_option maxHeartbeats 40000000 in
theorem b18 {l : Launch} {Z : State} {a0 : Array Value} (hw : HW a0 Z) (x0 : Addr) {q : Value} (rq : q.isRef = true) {n0 : Nat} {h : Heap} (Z0 : n0 ≤ h.size) (F0 : Fld Z h x0 "com/example/quittance/quittance/AuditEntry" "reasonCode" "Ljava/lang/String;" q) : OM [] l Z (⟨"com/example/quittance/quittance/AuditEntry", "reasonCode", "()Ljava/lang/String;"⟩ : MethodName) prog_3_method_13_code 1 (some (.object "java/lang/String")) ⟨0, 0, 0, 0⟩ n0 h #[(.ref x0)] (fun v h' => v = some q ∧ h' = h) 0 0 := by
  refine OM.of_body (own_EL hw) (ls := #[.val (.ref x0)]) (plainFor_of_name pn_4) (fun m => by first | (simp [entryFrame, mkF, argsToLocals, Value.category]; done) | rfl) ?_
  intro p e s m below meth c C
  refine OG.ow (OG.aloadN C d18_0 rfl rfl (pc' := 1) rfl) ?_
  refine OG.ow (OG.getF C (host := "") (Or.inl (w62 hw)) Via.refl F0 d18_1 (pc' := 4) rfl) ?_
  refine OW.retA C rfl rq d18_4 (by decide) (by decide) ?_
  exact ⟨rfl, rfl⟩
theorem d9_0 : decode prog_3_method_3_code 0 = .ok (.new 8, 3) := by decide +kernel
theorem d9_3 : decode prog_3_method_3_code 3 = .ok (.dup, 1) := by decide +kernel
theorem d9_4 : decode prog_3_method_3_code 4 = .ok (.aload_n 0, 1) := by decide +kernel
theorem d9_5 : decode prog_3_method_3_code 5 = .ok (.getfield 7, 3) := by decide +kernel
theorem d9_8 : decode prog_3_method_3_code 8 = .ok (.aload_n 0, 1) := by decide +kernel
theorem d9_9 : decode prog_3_method_3_code 9 = .ok (.getfield 13, 3) := by decide +kernel
theorem d9_12 : decode prog_3_method_3_code 12 = .ok (.aload_n 1, 1) := by decide +kernel
theorem d9_13 : decode prog_3_method_3_code 13 = .ok (.aload_n 0, 1) := by decide +kernel
theorem d9_14 : decode prog_3_method_3_code 14 = .ok (.getfield 20, 3) := by decide +kernel
theorem d9_17 : decode prog_3_method_3_code 17 = .ok (.aload_n 0, 1) := by decide +kernel
theorem d9_18 : decode prog_3_method_3_code 18 = .ok (.getfield 24, 3) := by decide +kernel
theorem d9_21 : decode prog_3_method_3_code 21 = .ok (.invokespecial 27, 3) := by decide +kernel
theorem d9_24 : decode prog_3_method_3_code 24 = .ok (.areturn, 1) := by decide +kernel
set_option maxRecDepth 65536 in
set_option maxHeartbeats 40000000 in
theorem b9 {l : Launch} {Z : State} {a0 : Array Value} (hw : HW a0 Z) (x0 : Addr) (x1 : Value) (rx1 : x1.isRef = true) {q0 q1 q2 q3 q4 : Value} (rq0 : q0.isRef = true) (rq1 : q1.isRef = true) (rq2 : q2.isRef = true) (rq3 : q3.isRef = true) (rq4 : q4.isRef = true) {n0 : Nat} {h : Heap} (Z0 : n0 ≤ h.size) (F0 : Fld Z h x0 "com/example/quittance/quittance/AuditEntry" "action" "Lcom/example/quittance/quittance/AuditEntry$Action;" q0) (F1 : Fld Z h x0 "com/example/quittance/quittance/AuditEntry" "document" "Ljava/lang/String;" q1) (F2 : Fld Z h x0 "com/example/quittance/quittance/AuditEntry" "invoice" "Ljava/lang/String;" q2) (F3 : Fld Z h x0 "com/example/quittance/quittance/AuditEntry" "amount" "Lcom/example/quittance/quittance/Amount;" q3) (F4 : Fld Z h x0 "com/example/quittance/quittance/AuditEntry" "reasonCode" "Ljava/lang/String;" q4) : OM [] l Z (⟨"com/example/quittance/quittance/AuditEntry", "withInvoice", "(Ljava/lang/String;)Lcom/example/quittance/quittance/AuditEntry;"⟩ : MethodName) prog_3_method_3_code 2 (some (.object "com/example/quittance/quittance/AuditEntry")) ⟨3, 1, 5, 42⟩ n0 h #[(.ref x0), x1] (fun v h' => ∃ a : Addr, v = some (.ref a) ∧ h.size ≤ a ∧ Keep h h' [] ∧ Exa Z h' a "com/example/quittance/quittance/AuditEntry" ∧ Fld Z h' a "com/example/quittance/quittance/AuditEntry" "action" "Lcom/example/quittance/quittance/AuditEntry$Action;" q0 ∧ Fld Z h' a "com/example/quittance/quittance/AuditEntry" "document" "Ljava/lang/String;" q1 ∧ Fld Z h' a "com/example/quittance/quittance/AuditEntry" "invoice" "Ljava/lang/String;" x1 ∧ Fld Z h' a "com/example/quittance/quittance/AuditEntry" "amount" "Lcom/example/quittance/quittance/Amount;" q3 ∧ Fld Z h' a "com/example/quittance/quittance/AuditEntry" "reasonCode" "Ljava/lang/String;" q4) 1 5 := by
  refine OM.of_body (own_EL hw) (ls := #[.val (.ref x0), .val x1]) (plainFor_of_name pn_4) (fun m => by rcases ref_cases rx1 with rfl | ⟨_, rfl⟩ <;> first | (simp [entryFrame, mkF, argsToLocals, Value.category]; done) | rfl) ?_
  intro p e s m below meth c C
  refine OW.newO C (w69 hw) (w48 hw) (w49 hw) d9_0 (by decide) (by decide) (pc' := 3) rfl ?_
  intro a1 h2 ga1 Eh2 Aa1 Da1
  refine OG.ow (OG.dup C d9_3 rfl (pc' := 4) rfl) ?_
  refine OG.ow (OG.aloadN C d9_4 rfl rfl (pc' := 5) rfl) ?_
  have G3 := (Fld.ext Eh2 F0)
  refine OG.ow (OG.getF C (host := "") (Or.inl (w54 hw)) Via.refl G3 d9_5 (pc' := 8) rfl) ?_
  refine OG.ow (OG.aloadN C d9_8 rfl rfl (pc' := 9) rfl) ?_
  have G4 := (Fld.ext Eh2 F1)
  refine OG.ow (OG.getF C (host := "") (Or.inl (w56 hw)) Via.refl G4 d9_9 (pc' := 12) rfl) ?_
  refine OG.ow (OG.aloadN C d9_12 rfl rx1 (pc' := 13) rfl) ?_
  refine OG.ow (OG.aloadN C d9_13 rfl rfl (pc' := 14) rfl) ?_
  have G5 := (Fld.ext Eh2 F3)
  refine OG.ow (OG.getF C (host := "") (Or.inl (w60 hw)) Via.refl G5 d9_14 (pc' := 17) rfl) ?_
  refine OG.ow (OG.aloadN C d9_17 rfl rfl (pc' := 18) rfl) ?_
  have G6 := (Fld.ext Eh2 F4)
  refine OG.ow (OG.getF C (host := "") (Or.inl (w62 hw)) Via.refl G6 d9_18 (pc' := 21) rfl) ?_
  refine OW.init C (w70 hw) (w51 hw) (w49 hw) (w52 hw) rfl (by decide) (b8 hw a1 q0 rq0 q1 rq1 x1 rx1 q3 rq3 q4 rq4 (Nat.le_trans Z0 Eh2.1) (Nat.le_trans Z0 (Nat.le_of_eq ga1)) Aa1 (show Fld Z h2 a1 "com/example/quittance/quittance/AuditEntry" "action" "Lcom/example/quittance/quittance/AuditEntry$Action;" .null from Da1 (Or.inr (w55 hw)) (ty := (.object "com/example/quittance/quittance/AuditEntry$Action")) (by decide)) (show Fld Z h2 a1 "com/example/quittance/quittance/AuditEntry" "document" "Ljava/lang/String;" .null from Da1 (Or.inr (w57 hw)) (ty := (.object "java/lang/String")) (by decide)) (show Fld Z h2 a1 "com/example/quittance/quittance/AuditEntry" "invoice" "Ljava/lang/String;" .null from Da1 (Or.inr (w59 hw)) (ty := (.object "java/lang/String")) (by decide)) (show Fld Z h2 a1 "com/example/quittance/quittance/AuditEntry" "amount" "Lcom/example/quittance/quittance/Amount;" .null from Da1 (Or.inr (w61 hw)) (ty := (.object "com/example/quittance/quittance/Amount")) (by decide)) (show Fld Z h2 a1 "com/example/quittance/quittance/AuditEntry" "reasonCode" "Ljava/lang/String;" .null from Da1 (Or.inr (w63 hw)) (ty := (.object "java/lang/String")) (by decide))) allN d9_21 pd_5 rfl (argsL := [q0, q1, x1, q3, q4]) (rest := [(.ref a1)]) rfl rfl (W := 1) rfl (by decide) (by decide) (by decide) (by decide) (pc' := 24) rfl ?_
  intro vh7 h7 qh7
  obtain ⟨rfl, Kh7, Fh7_0, Fh7_1, Fh7_2, Fh7_3, Fh7_4⟩ := qh7
  refine OW.retA C rfl rfl d9_24 (by decide) (by decide) ?_
  have G8 := (Aa1.keep Kh7)
  exact ⟨_, rfl, (Nat.le_trans (Nat.le_refl _) (Nat.le_of_eq ga1)), (((Keep.refl h []).ext Eh2).trans Kh7 (allS (Or.inr (Nat.le_trans (Nat.le_refl _) (Nat.le_of_eq ga1))) all0)), G8, Fh7_0, Fh7_1, Fh7_2, Fh7_3, Fh7_4⟩
theorem d1_0 : decode method_6_code 0 = .ok (.iload_n 0, 1) := by decide +kernel
theorem d1_1 : decode method_6_code 1 = .ok (.ldc 69, 2) := by decide +kernel
theorem d1_3 : decode method_6_code 3 = .ok (.iand, 1) := by decide +kernel
theorem d1_4 : decode method_6_code 4 = .ok (.bipush 14, 2) := by decide +kernel
theorem d1_6 : decode method_6_code 6 = .ok (.irem, 1) := by decide +kernel
theorem d1_7 : decode method_6_code 7 = .ok (.istore_n 1, 1) := by decide +kernel
theorem d1_8 : decode method_6_code 8 = .ok (.iload_n 1, 1) := by decide +kernel
theorem d1_9 : decode method_6_code 9 = .ok (.ifCond .ne 7, 3) := by decide +kernel
theorem d1_12 : decode method_6_code 12 = .ok (.getstatic 70, 3) := by decide +kernel
theorem d1_15 : decode method_6_code 15 = .ok (.areturn, 1) := by decide +kernel
theorem d1_16 : decode method_6_code 16 = .ok (.iload_n 1, 1) := by decide +kernel
theorem d1_17 : decode method_6_code 17 = .ok (.iconst 1, 1) := by decide +kernel
theorem d1_18 : decode method_6_code 18 = .ok (.if_icmp .ne 7, 3) := by decide +kernel
theorem d1_21 : decode method_6_code 21 = .ok (.getstatic 76, 3) := by decide +kernel
theorem d1_24 : decode method_6_code 24 = .ok (.areturn, 1) := by decide +kernel
theorem d1_25 : decode method_6_code 25 = .ok (.iload_n 1, 1) := by decide +kernel
theorem d1_26 : decode method_6_code 26 = .ok (.iconst 2, 1) := by decide +kernel
theorem d1_27 : decode method_6_code 27 = .ok (.if_icmp .ne 7, 3) := by decide +kernel
theorem d1_30 : decode method_6_code 30 = .ok (.getstatic 79, 3) := by decide +kernel
theorem d1_33 : decode method_6_code 33 = .ok (.areturn, 1) := by decide +kernel
theorem d1_34 : decode method_6_code 34 = .ok (.iload_n 1, 1) := by decide +kernel
theorem d1_35 : decode method_6_code 35 = .ok (.iconst 3, 1) := by decide +kernel
theorem d1_36 : decode method_6_code 36 = .ok (.if_icmp .ne 7, 3) := by decide +kernel
theorem d1_39 : decode method_6_code 39 = .ok (.getstatic 82, 3) := by decide +kernel
theorem d1_42 : decode method_6_code 42 = .ok (.areturn, 1) := by decide +kernel
theorem d1_43 : decode method_6_code 43 = .ok (.iload_n 1, 1) := by decide +kernel
theorem d1_44 : decode method_6_code 44 = .ok (.iconst 4, 1) := by decide +kernel
theorem d1_45 : decode method_6_code 45 = .ok (.if_icmp .ne 7, 3) := by decide +kernel
theorem d1_48 : decode method_6_code 48 = .ok (.getstatic 85, 3) := by decide +kernel
theorem d1_51 : decode method_6_code 51 = .ok (.areturn, 1) := by decide +kernel
theorem d1_52 : decode method_6_code 52 = .ok (.iload_n 1, 1) := by decide +kernel
theorem d1_53 : decode method_6_code 53 = .ok (.iconst 5, 1) := by decide +kernel
theorem d1_54 : decode method_6_code 54 = .ok (.if_icmp .ne 7, 3) := by decide +kernel
theorem d1_57 : decode method_6_code 57 = .ok (.getstatic 88, 3) := by decide +kernel
theorem d1_60 : decode method_6_code 60 = .ok (.areturn, 1) := by decide +kernel
theorem d1_61 : decode method_6_code 61 = .ok (.iload_n 1, 1) := by decide +kernel
theorem d1_62 : decode method_6_code 62 = .ok (.bipush 6, 2) := by decide +kernel
theorem d1_64 : decode method_6_code 64 = .ok (.if_icmp .ne 7, 3) := by decide +kernel
theorem d1_67 : decode method_6_code 67 = .ok (.getstatic 91, 3) := by decide +kernel
theorem d1_70 : decode method_6_code 70 = .ok (.areturn, 1) := by decide +kernel
theorem d1_71 : decode method_6_code 71 = .ok (.iload_n 1, 1) := by decide +kernel
theorem d1_72 : decode method_6_code 72 = .ok (.bipush 7, 2) := by decide +kernel
theorem d1_74 : decode method_6_code 74 = .ok (.if_icmp .ne 7, 3) := by decide +kernel
theorem d1_77 : decode method_6_code 77 = .ok (.getstatic 94, 3) := by decide +kernel
theorem d1_80 : decode method_6_code 80 = .ok (.areturn, 1) := by decide +kernel
theorem d1_81 : decode method_6_code 81 = .ok (.iload_n 1, 1) := by decide +kernel
theorem d1_82 : decode method_6_code 82 = .ok (.bipush 8, 2) := by decide +kernel
theorem d1_84 : decode method_6_code 84 = .ok (.if_icmp .ne 7, 3) := by decide +kernel
theorem d1_87 : decode method_6_code 87 = .ok (.getstatic 97, 3) := by decide +kernel
theorem d1_90 : decode method_6_code 90 = .ok (.areturn, 1) := by decide +kernel
theorem d1_91 : decode method_6_code 91 = .ok (.iload_n 1, 1) := by decide +kernel
theorem d1_92 : decode method_6_code 92 = .ok (.bipush 9, 2) := by decide +kernel
theorem d1_94 : decode method_6_code 94 = .ok (.if_icmp .ne 7, 3) := by decide +kernel
theorem d1_97 : decode method_6_code 97 = .ok (.getstatic 100, 3) := by decide +kernel
theorem d1_100 : decode method_6_code 100 = .ok (.areturn, 1) := by decide +kernel
theorem d1_101 : decode method_6_code 101 = .ok (.iload_n 1, 1) := by decide +kernel
theorem d1_102 : decode method_6_code 102 = .ok (.bipush 10, 2) := by decide +kernel
theorem d1_104 : decode method_6_code 104 = .ok (.if_icmp .ne 7, 3) := by decide +kernel
theorem d1_107 : decode method_6_code 107 = .ok (.getstatic 103, 3) := by decide +kernel
theorem d1_110 : decode method_6_code 110 = .ok (.areturn, 1) := by decide +kernel
theorem d1_111 : decode method_6_code 111 = .ok (.iload_n 1, 1) := by decide +kernel
theorem d1_112 : decode method_6_code 112 = .ok (.bipush 11, 2) := by decide +kernel
theorem d1_114 : decode method_6_code 114 = .ok (.if_icmp .ne 7, 3) := by decide +kernel
theorem d1_117 : decode method_6_code 117 = .ok (.getstatic 106, 3) := by decide +kernel
theorem d1_120 : decode method_6_code 120 = .ok (.areturn, 1) := by decide +kernel
theorem d1_121 : decode method_6_code 121 = .ok (.iload_n 1, 1) := by decide +kernel
theorem d1_122 : decode method_6_code 122 = .ok (.bipush 12, 2) := by decide +kernel
theorem d1_124 : decode method_6_code 124 = .ok (.if_icmp .ne 7, 3) := by decide +kernel
theorem d1_127 : decode method_6_code 127 = .ok (.getstatic 109, 3) := by decide +kernel
theorem d1_130 : decode method_6_code 130 = .ok (.areturn, 1) := by decide +kernel
theorem d1_131 : decode method_6_code 131 = .ok (.getstatic 112, 3) := by decide +kernel
theorem d1_134 : decode method_6_code 134 = .ok (.areturn, 1) := by decide +kernel
def F1 (x0 : Int32) (s0 : Addr) (s1 : Addr) (s2 : Addr) (s3 : Addr) (s4 : Addr) (s5 : Addr) (s6 : Addr) (s7 : Addr) (s8 : Addr) (s9 : Addr) (s10 : Addr) (s11 : Addr) (s12 : Addr) (s13 : Addr) : Addr := let y1 : Int32 := ((x0 &&& (2147483647 : Int32)) % (14 : Int32)); if y1 = (0 : Int32) then (s0) else (if y1 = (1 : Int32) then (s1) else (if y1 = (2 : Int32) then (s12) else (if y1 = (3 : Int32) then (s4) else (if y1 = (4 : Int32) then (s3) else (if y1 = (5 : Int32) then (s11) else (if y1 = (6 : Int32) then (s9) else (if y1 = (7 : Int32) then (s8) else (if y1 = (8 : Int32) then (s10) else (if y1 = (9 : Int32) then (s6) else (if y1 = (10 : Int32) then (s5) else (if y1 = (11 : Int32) then (s2) else (if y1 = (12 : Int32) then (s13) else (s7)))))))))))))
set_option maxRecDepth 65536 in
set_option maxHeartbeats 40000000 in
theorem b1 {l : Launch} {Z : State} {a0 : Array Value} (hw : HW a0 Z) (x0 : Int32) {n0 : Nat} {h : Heap} {s0 s1 s2 s3 s4 s5 s6 s7 s8 s9 s10 s11 s12 s13 : Addr} (S0 : Sta Z h "com/example/quittance/quittance/AuditEntry$Action" "REASON_CODE_SET" "Lcom/example/quittance/quittance/AuditEntry$Action;" (.ref s0)) (S1 : Sta Z h "com/example/quittance/quittance/AuditEntry$Action" "CUSTOMER_CREATED" "Lcom/example/quittance/quittance/AuditEntry$Action;" (.ref s1)) (S2 : Sta Z h "com/example/quittance/quittance/AuditEntry$Action" "CREDIT_ALLOCATED" "Lcom/example/quittance/quittance/AuditEntry$Action;" (.ref s2)) (S3 : Sta Z h "com/example/quittance/quittance/AuditEntry$Action" "INVOICE_ADJUSTED" "Lcom/example/quittance/quittance/AuditEntry$Action;" (.ref s3)) (S4 : Sta Z h "com/example/quittance/quittance/AuditEntry$Action" "INVOICE_POSTED" "Lcom/example/quittance/quittance/AuditEntry$Action;" (.ref s4)) (S5 : Sta Z h "com/example/quittance/quittance/AuditEntry$Action" "CREDIT_MEMO_POSTED" "Lcom/example/quittance/quittance/AuditEntry$Action;" (.ref s5)) (S6 : Sta Z h "com/example/quittance/quittance/AuditEntry$Action" "CREDIT_NOTE_DRAFTED" "Lcom/example/quittance/quittance/AuditEntry$Action;" (.ref s6)) (S7 : Sta Z h "com/example/quittance/quittance/AuditEntry$Action" "CREDIT_NOTE_VOIDED" "Lcom/example/quittance/quittance/AuditEntry$Action;" (.ref s7)) (S8 : Sta Z h "com/example/quittance/quittance/AuditEntry$Action" "PAYMENT_APPLICATION_REVERSED" "Lcom/example/quittance/quittance/AuditEntry$Action;" (.ref s8)) (S9 : Sta Z h "com/example/quittance/quittance/AuditEntry$Action" "PAYMENT_APPLIED" "Lcom/example/quittance/quittance/AuditEntry$Action;" (.ref s9)) (S10 : Sta Z h "com/example/quittance/quittance/AuditEntry$Action" "CUSTOMER_CREDIT_CREATED" "Lcom/example/quittance/quittance/AuditEntry$Action;" (.ref s10)) (S11 : Sta Z h "com/example/quittance/quittance/AuditEntry$Action" "PAYMENT_RECORDED" "Lcom/example/quittance/quittance/AuditEntry$Action;" (.ref s11)) (S12 : Sta Z h "com/example/quittance/quittance/AuditEntry$Action" "INVOICE_DRAFTED" "Lcom/example/quittance/quittance/AuditEntry$Action;" (.ref s12)) (S13 : Sta Z h "com/example/quittance/quittance/AuditEntry$Action" "CREDIT_REFUNDED" "Lcom/example/quittance/quittance/AuditEntry$Action;" (.ref s13)) : OM [] l Z (⟨"com/example/quittance/quittance/AuditEntryWithInvoicePinLaw", "action", "(I)Lcom/example/quittance/quittance/AuditEntry$Action;"⟩ : MethodName) method_6_code 2 (some (.object "com/example/quittance/quittance/AuditEntry$Action")) ⟨0, 0, 0, 0⟩ n0 h #[(.int x0)] (fun v h' => v = some (.ref (F1 x0 s0 s1 s2 s3 s4 s5 s6 s7 s8 s9 s10 s11 s12 s13)) ∧ h' = h) 0 0 := by
  refine OM.of_body (own_EL hw) (ls := #[.val (.int x0), .unset]) (plainFor_of_name pn_5) (fun m => by first | (simp [entryFrame, mkF, argsToLocals, Value.category]; done) | rfl) ?_
  intro p e s m below meth c C
  refine OG.ow (OG.iloadN C d1_0 rfl (pc' := 1) rfl) ?_
  refine OG.ow (OG.ldcI C (w4 hw) d1_1 (pc' := 3) rfl) ?_
  refine OG.ow (OG.iand C d1_3 (pc' := 4) rfl) ?_
  refine OG.ow (OG.bipush C d1_4 (z := (14 : Int32)) (by decide) (pc' := 6) rfl) ?_
  refine OG.ow (OG.irem C d1_6 (by decide) (pc' := 7) rfl) ?_
  generalize hy1 : ((x0 &&& (2147483647 : Int32)) % (14 : Int32)) = y1
  refine OG.ow (OG.istoreN C d1_7 (ls' := #[.val (.int x0), .val (.int y1)]) rfl (pc' := 8) rfl) ?_
  refine OG.ow (OG.iloadN C d1_8 rfl (pc' := 9) rfl) ?_
  by_cases hc2 : y1 = (0 : Int32)
  · refine OG.ow (OG.ifNo C d1_9 ((if0 _ _).trans (teq hc2).2) (pc' := 12) rfl) ?_
    refine OG.ow (OG.getS C (host := "") (Or.inl (w5 hw)) Via.refl S0 d1_12 (pc' := 15) rfl) ?_
    refine OW.retA C rfl rfl d1_15 (by decide) (by decide) ?_
    refine ⟨congrArg (fun z => some (Value.ref z)) ?_, rfl⟩
    subst hy1
    show _ = F1 x0 s0 s1 s2 s3 s4 s5 s6 s7 s8 s9 s10 s11 s12 s13
    first | (unfold F1; rw [if_pos hc2]) | (unfold F1; dsimp only; rw [if_pos hc2])
  · refine OG.ow (OG.ifYes C d1_9 ((if0 _ _).trans (feq hc2).2) (by decide) (pc' := 16) (by decide)) ?_
    refine OG.ow (OG.iloadN C d1_16 rfl (pc' := 17) rfl) ?_
    refine OG.ow (OG.iconst C d1_17 (z := (1 : Int32)) rfl (pc' := 18) rfl) ?_
    by_cases hc3 : y1 = (1 : Int32)
    · refine OG.ow (OG.icmpNo C d1_18 (teq hc3).2 (pc' := 21) rfl) ?_
      refine OG.ow (OG.getS C (host := "") (Or.inl (w112 hw)) Via.refl S1 d1_21 (pc' := 24) rfl) ?_
      refine OW.retA C rfl rfl d1_24 (by decide) (by decide) ?_
      refine ⟨congrArg (fun z => some (Value.ref z)) ?_, rfl⟩
      subst hy1
      show _ = F1 x0 s0 s1 s2 s3 s4 s5 s6 s7 s8 s9 s10 s11 s12 s13
      first | (unfold F1; rw [if_neg hc2, if_pos hc3]) | (unfold F1; dsimp only; rw [if_neg hc2, if_pos hc3])
    · refine OG.ow (OG.icmpYes C d1_18 (feq hc3).2 (by decide) (pc' := 25) (by decide)) ?_
      refine OG.ow (OG.iloadN C d1_25 rfl (pc' := 26) rfl) ?_
      refine OG.ow (OG.iconst C d1_26 (z := (2 : Int32)) rfl (pc' := 27) rfl) ?_
      by_cases hc4 : y1 = (2 : Int32)
      · refine OG.ow (OG.icmpNo C d1_27 (teq hc4).2 (pc' := 30) rfl) ?_
        refine OG.ow (OG.getS C (host := "") (Or.inl (w145 hw)) Via.refl S12 d1_30 (pc' := 33) rfl) ?_
        refine OW.retA C rfl rfl d1_33 (by decide) (by decide) ?_
        refine ⟨congrArg (fun z => some (Value.ref z)) ?_, rfl⟩
        subst hy1
        show _ = F1 x0 s0 s1 s2 s3 s4 s5 s6 s7 s8 s9 s10 s11 s12 s13
        first | (unfold F1; rw [if_neg hc2, if_neg hc3, if_pos hc4]) | (unfold F1; dsimp only; rw [if_neg hc2, if_neg hc3, if_pos hc4])
      · refine OG.ow (OG.icmpYes C d1_27 (feq hc4).2 (by decide) (pc' := 34) (by decide)) ?_
        refine OG.ow (OG.iloadN C d1_34 rfl (pc' := 35) rfl) ?_
        refine OG.ow (OG.iconst C d1_35 (z := (3 : Int32)) rfl (pc' := 36) rfl) ?_
        by_cases hc5 : y1 = (3 : Int32)
        · refine OG.ow (OG.icmpNo C d1_36 (teq hc5).2 (pc' := 39) rfl) ?_
          refine OG.ow (OG.getS C (host := "") (Or.inl (w129 hw)) Via.refl S4 d1_39 (pc' := 42) rfl) ?_
          refine OW.retA C rfl rfl d1_42 (by decide) (by decide) ?_
          refine ⟨congrArg (fun z => some (Value.ref z)) ?_, rfl⟩
          subst hy1
          show _ = F1 x0 s0 s1 s2 s3 s4 s5 s6 s7 s8 s9 s10 s11 s12 s13
          first | (unfold F1; rw [if_neg hc2, if_neg hc3, if_neg hc4, if_pos hc5]) | (unfold F1; dsimp only; rw [if_neg hc2, if_neg hc3, if_neg hc4, if_pos hc5])
        · refine OG.ow (OG.icmpYes C d1_36 (feq hc5).2 (by decide) (pc' := 43) (by decide)) ?_
          refine OG.ow (OG.iloadN C d1_43 rfl (pc' := 44) rfl) ?_
          refine OG.ow (OG.iconst C d1_44 (z := (4 : Int32)) rfl (pc' := 45) rfl) ?_
          by_cases hc6 : y1 = (4 : Int32)
          · refine OG.ow (OG.icmpNo C d1_45 (teq hc6).2 (pc' := 48) rfl) ?_
            refine OG.ow (OG.getS C (host := "") (Or.inl (w127 hw)) Via.refl S3 d1_48 (pc' := 51) rfl) ?_
            refine OW.retA C rfl rfl d1_51 (by decide) (by decide) ?_
            refine ⟨congrArg (fun z => some (Value.ref z)) ?_, rfl⟩
            subst hy1
            show _ = F1 x0 s0 s1 s2 s3 s4 s5 s6 s7 s8 s9 s10 s11 s12 s13
            first | (unfold F1; rw [if_neg hc2, if_neg hc3, if_neg hc4, if_neg hc5, if_pos hc6]) | (unfold F1; dsimp only; rw [if_neg hc2, if_neg hc3, if_neg hc4, if_neg hc5, if_pos hc6])
          · refine OG.ow (OG.icmpYes C d1_45 (feq hc6).2 (by decide) (pc' := 52) (by decide)) ?_
            refine OG.ow (OG.iloadN C d1_52 rfl (pc' := 53) rfl) ?_
            refine OG.ow (OG.iconst C d1_53 (z := (5 : Int32)) rfl (pc' := 54) rfl) ?_
            by_cases hc7 : y1 = (5 : Int32)
            · refine OG.ow (OG.icmpNo C d1_54 (teq hc7).2 (pc' := 57) rfl) ?_
              refine OG.ow (OG.getS C (host := "") (Or.inl (w143 hw)) Via.refl S11 d1_57 (pc' := 60) rfl) ?_
              refine OW.retA C rfl rfl d1_60 (by decide) (by decide) ?_
              refine ⟨congrArg (fun z => some (Value.ref z)) ?_, rfl⟩
              subst hy1
              show _ = F1 x0 s0 s1 s2 s3 s4 s5 s6 s7 s8 s9 s10 s11 s12 s13
              first | (unfold F1; rw [if_neg hc2, if_neg hc3, if_neg hc4, if_neg hc5, if_neg hc6, if_pos hc7]) | (unfold F1; dsimp only; rw [if_neg hc2, if_neg hc3, if_neg hc4, if_neg hc5, if_neg hc6, if_pos hc7])
            · refine OG.ow (OG.icmpYes C d1_54 (feq hc7).2 (by decide) (pc' := 61) (by decide)) ?_
              refine OG.ow (OG.iloadN C d1_61 rfl (pc' := 62) rfl) ?_
              refine OG.ow (OG.bipush C d1_62 (z := (6 : Int32)) (by decide) (pc' := 64) rfl) ?_
              by_cases hc8 : y1 = (6 : Int32)
              · refine OG.ow (OG.icmpNo C d1_64 (teq hc8).2 (pc' := 67) rfl) ?_
                refine OG.ow (OG.getS C (host := "") (Or.inl (w139 hw)) Via.refl S9 d1_67 (pc' := 70) rfl) ?_
                refine OW.retA C rfl rfl d1_70 (by decide) (by decide) ?_
                refine ⟨congrArg (fun z => some (Value.ref z)) ?_, rfl⟩
                subst hy1
                show _ = F1 x0 s0 s1 s2 s3 s4 s5 s6 s7 s8 s9 s10 s11 s12 s13
                first | (unfold F1; rw [if_neg hc2, if_neg hc3, if_neg hc4, if_neg hc5, if_neg hc6, if_neg hc7, if_pos hc8]) | (unfold F1; dsimp only; rw [if_neg hc2, if_neg hc3, if_neg hc4, if_neg hc5, if_neg hc6, if_neg hc7, if_pos hc8])
              · refine OG.ow (OG.icmpYes C d1_64 (feq hc8).2 (by decide) (pc' := 71) (by decide)) ?_
                refine OG.ow (OG.iloadN C d1_71 rfl (pc' := 72) rfl) ?_
                refine OG.ow (OG.bipush C d1_72 (z := (7 : Int32)) (by decide) (pc' := 74) rfl) ?_
                by_cases hc9 : y1 = (7 : Int32)
                · refine OG.ow (OG.icmpNo C d1_74 (teq hc9).2 (pc' := 77) rfl) ?_
                  refine OG.ow (OG.getS C (host := "") (Or.inl (w137 hw)) Via.refl S8 d1_77 (pc' := 80) rfl) ?_
                  refine OW.retA C rfl rfl d1_80 (by decide) (by decide) ?_
                  refine ⟨congrArg (fun z => some (Value.ref z)) ?_, rfl⟩
                  subst hy1
                  show _ = F1 x0 s0 s1 s2 s3 s4 s5 s6 s7 s8 s9 s10 s11 s12 s13
                  first | (unfold F1; rw [if_neg hc2, if_neg hc3, if_neg hc4, if_neg hc5, if_neg hc6, if_neg hc7, if_neg hc8, if_pos hc9]) | (unfold F1; dsimp only; rw [if_neg hc2, if_neg hc3, if_neg hc4, if_neg hc5, if_neg hc6, if_neg hc7, if_neg hc8, if_pos hc9])
                · refine OG.ow (OG.icmpYes C d1_74 (feq hc9).2 (by decide) (pc' := 81) (by decide)) ?_
                  refine OG.ow (OG.iloadN C d1_81 rfl (pc' := 82) rfl) ?_
                  refine OG.ow (OG.bipush C d1_82 (z := (8 : Int32)) (by decide) (pc' := 84) rfl) ?_
                  by_cases hc10 : y1 = (8 : Int32)
                  · refine OG.ow (OG.icmpNo C d1_84 (teq hc10).2 (pc' := 87) rfl) ?_
                    refine OG.ow (OG.getS C (host := "") (Or.inl (w141 hw)) Via.refl S10 d1_87 (pc' := 90) rfl) ?_
                    refine OW.retA C rfl rfl d1_90 (by decide) (by decide) ?_
                    refine ⟨congrArg (fun z => some (Value.ref z)) ?_, rfl⟩
                    subst hy1
                    show _ = F1 x0 s0 s1 s2 s3 s4 s5 s6 s7 s8 s9 s10 s11 s12 s13
                    first | (unfold F1; rw [if_neg hc2, if_neg hc3, if_neg hc4, if_neg hc5, if_neg hc6, if_neg hc7, if_neg hc8, if_neg hc9, if_pos hc10]) | (unfold F1; dsimp only; rw [if_neg hc2, if_neg hc3, if_neg hc4, if_neg hc5, if_neg hc6, if_neg hc7, if_neg hc8, if_neg hc9, if_pos hc10])
                  · refine OG.ow (OG.icmpYes C d1_84 (feq hc10).2 (by decide) (pc' := 91) (by decide)) ?_
                    refine OG.ow (OG.iloadN C d1_91 rfl (pc' := 92) rfl) ?_
                    refine OG.ow (OG.bipush C d1_92 (z := (9 : Int32)) (by decide) (pc' := 94) rfl) ?_
                    by_cases hc11 : y1 = (9 : Int32)
                    · refine OG.ow (OG.icmpNo C d1_94 (teq hc11).2 (pc' := 97) rfl) ?_
                      refine OG.ow (OG.getS C (host := "") (Or.inl (w133 hw)) Via.refl S6 d1_97 (pc' := 100) rfl) ?_
                      refine OW.retA C rfl rfl d1_100 (by decide) (by decide) ?_
                      refine ⟨congrArg (fun z => some (Value.ref z)) ?_, rfl⟩
                      subst hy1
                      show _ = F1 x0 s0 s1 s2 s3 s4 s5 s6 s7 s8 s9 s10 s11 s12 s13
                      first | (unfold F1; rw [if_neg hc2, if_neg hc3, if_neg hc4, if_neg hc5, if_neg hc6, if_neg hc7, if_neg hc8, if_neg hc9, if_neg hc10, if_pos hc11]) | (unfold F1; dsimp only; rw [if_neg hc2, if_neg hc3, if_neg hc4, if_neg hc5, if_neg hc6, if_neg hc7, if_neg hc8, if_neg hc9, if_neg hc10, if_pos hc11])
                    · refine OG.ow (OG.icmpYes C d1_94 (feq hc11).2 (by decide) (pc' := 101) (by decide)) ?_
                      refine OG.ow (OG.iloadN C d1_101 rfl (pc' := 102) rfl) ?_
                      refine OG.ow (OG.bipush C d1_102 (z := (10 : Int32)) (by decide) (pc' := 104) rfl) ?_
                      by_cases hc12 : y1 = (10 : Int32)
                      · refine OG.ow (OG.icmpNo C d1_104 (teq hc12).2 (pc' := 107) rfl) ?_
                        refine OG.ow (OG.getS C (host := "") (Or.inl (w131 hw)) Via.refl S5 d1_107 (pc' := 110) rfl) ?_
                        refine OW.retA C rfl rfl d1_110 (by decide) (by decide) ?_
                        refine ⟨congrArg (fun z => some (Value.ref z)) ?_, rfl⟩
                        subst hy1
                        show _ = F1 x0 s0 s1 s2 s3 s4 s5 s6 s7 s8 s9 s10 s11 s12 s13
                        first | (unfold F1; rw [if_neg hc2, if_neg hc3, if_neg hc4, if_neg hc5, if_neg hc6, if_neg hc7, if_neg hc8, if_neg hc9, if_neg hc10, if_neg hc11, if_pos hc12]) | (unfold F1; dsimp only; rw [if_neg hc2, if_neg hc3, if_neg hc4, if_neg hc5, if_neg hc6, if_neg hc7, if_neg hc8, if_neg hc9, if_neg hc10, if_neg hc11, if_pos hc12])
                      · refine OG.ow (OG.icmpYes C d1_104 (feq hc12).2 (by decide) (pc' := 111) (by decide)) ?_
                        refine OG.ow (OG.iloadN C d1_111 rfl (pc' := 112) rfl) ?_
                        refine OG.ow (OG.bipush C d1_112 (z := (11 : Int32)) (by decide) (pc' := 114) rfl) ?_
                        by_cases hc13 : y1 = (11 : Int32)
                        · refine OG.ow (OG.icmpNo C d1_114 (teq hc13).2 (pc' := 117) rfl) ?_
                          refine OG.ow (OG.getS C (host := "") (Or.inl (w114 hw)) Via.refl S2 d1_117 (pc' := 120) rfl) ?_
                          refine OW.retA C rfl rfl d1_120 (by decide) (by decide) ?_
                          refine ⟨congrArg (fun z => some (Value.ref z)) ?_, rfl⟩
                          subst hy1
                          show _ = F1 x0 s0 s1 s2 s3 s4 s5 s6 s7 s8 s9 s10 s11 s12 s13
                          first | (unfold F1; rw [if_neg hc2, if_neg hc3, if_neg hc4, if_neg hc5, if_neg hc6, if_neg hc7, if_neg hc8, if_neg hc9, if_neg hc10, if_neg hc11, if_neg hc12, if_pos hc13]) | (unfold F1; dsimp only; rw [if_neg hc2, if_neg hc3, if_neg hc4, if_neg hc5, if_neg hc6, if_neg hc7, if_neg hc8, if_neg hc9, if_neg hc10, if_neg hc11, if_neg hc12, if_pos hc13])
                        · refine OG.ow (OG.icmpYes C d1_114 (feq hc13).2 (by decide) (pc' := 121) (by decide)) ?_
                          refine OG.ow (OG.iloadN C d1_121 rfl (pc' := 122) rfl) ?_
                          refine OG.ow (OG.bipush C d1_122 (z := (12 : Int32)) (by decide) (pc' := 124) rfl) ?_
                          by_cases hc14 : y1 = (12 : Int32)
                          · refine OG.ow (OG.icmpNo C d1_124 (teq hc14).2 (pc' := 127) rfl) ?_
                            refine OG.ow (OG.getS C (host := "") (Or.inl (w147 hw)) Via.refl S13 d1_127 (pc' := 130) rfl) ?_
                            refine OW.retA C rfl rfl d1_130 (by decide) (by decide) ?_
                            refine ⟨congrArg (fun z => some (Value.ref z)) ?_, rfl⟩
                            subst hy1
                            show _ = F1 x0 s0 s1 s2 s3 s4 s5 s6 s7 s8 s9 s10 s11 s12 s13
                            first | (unfold F1; rw [if_neg hc2, if_neg hc3, if_neg hc4, if_neg hc5, if_neg hc6, if_neg hc7, if_neg hc8, if_neg hc9, if_neg hc10, if_neg hc11, if_neg hc12, if_neg hc13, if_pos hc14]) | (unfold F1; dsimp only; rw [if_neg hc2, if_neg hc3, if_neg hc4, if_neg hc5, if_neg hc6, if_neg hc7, if_neg hc8, if_neg hc9, if_neg hc10, if_neg hc11, if_neg hc12, if_neg hc13, if_pos hc14])
                          · refine OG.ow (OG.icmpYes C d1_124 (feq hc14).2 (by decide) (pc' := 131) (by decide)) ?_
                            refine OG.ow (OG.getS C (host := "") (Or.inl (w135 hw)) Via.refl S7 d1_131 (pc' := 134) rfl) ?_
                            refine OW.retA C rfl rfl d1_134 (by decide) (by decide) ?_
                            refine ⟨congrArg (fun z => some (Value.ref z)) ?_, rfl⟩
                            subst hy1
                            show _ = F1 x0 s0 s1 s2 s3 s4 s5 s6 s7 s8 s9 s10 s11 s12 s13
                            first | (unfold F1; rw [if_neg hc2, if_neg hc3, if_neg hc4, if_neg hc5, if_neg hc6, if_neg hc7, if_neg hc8, if_neg hc9, if_neg hc10, if_neg hc11, if_neg hc12, if_neg hc13, if_neg hc14]) | (unfold F1; dsimp only; rw [if_neg hc2, if_neg hc3, if_neg hc4, if_neg hc5, if_neg hc6, if_neg hc7, if_neg hc8, if_neg hc9, if_neg hc10, if_neg hc11, if_neg hc12, if_neg hc13, if_neg hc14])
theorem d2_0 : decode method_5_code 0 = .ok (.iload_n 1, 1) := by decide +kernel
theorem d2_1 : decode method_5_code 1 = .ok (.ifCond .eq 5, 3) := by decide +kernel
theorem d2_4 : decode method_5_code 4 = .ok (.aconst_null, 1) := by decide +kernel
theorem d2_5 : decode method_5_code 5 = .ok (.areturn, 1) := by decide +kernel
theorem d2_6 : decode method_5_code 6 = .ok (.iload_n 0, 1) := by decide +kernel
theorem d2_7 : decode method_5_code 7 = .ok (.sipush 255, 3) := by decide +kernel
theorem d2_10 : decode method_5_code 10 = .ok (.iand, 1) := by decide +kernel
theorem d2_11 : decode method_5_code 11 = .ok (.i2c, 1) := by decide +kernel
theorem d2_12 : decode method_5_code 12 = .ok (.istore_n 2, 1) := by decide +kernel
theorem d2_13 : decode method_5_code 13 = .ok (.iload_n 0, 1) := by decide +kernel
theorem d2_14 : decode method_5_code 14 = .ok (.bipush 8, 2) := by decide +kernel
theorem d2_16 : decode method_5_code 16 = .ok (.iushr, 1) := by decide +kernel
theorem d2_17 : decode method_5_code 17 = .ok (.sipush 255, 3) := by decide +kernel
theorem d2_20 : decode method_5_code 20 = .ok (.iand, 1) := by decide +kernel
theorem d2_21 : decode method_5_code 21 = .ok (.i2c, 1) := by decide +kernel
theorem d2_22 : decode method_5_code 22 = .ok (.istore_n 3, 1) := by decide +kernel
theorem d2_23 : decode method_5_code 23 = .ok (.iload_n 0, 1) := by decide +kernel
theorem d2_24 : decode method_5_code 24 = .ok (.bipush 24, 2) := by decide +kernel
theorem d2_26 : decode method_5_code 26 = .ok (.iushr, 1) := by decide +kernel
theorem d2_27 : decode method_5_code 27 = .ok (.sipush 255, 3) := by decide +kernel
theorem d2_30 : decode method_5_code 30 = .ok (.iand, 1) := by decide +kernel
theorem d2_31 : decode method_5_code 31 = .ok (.i2c, 1) := by decide +kernel
theorem d2_32 : decode method_5_code 32 = .ok (.istore 4, 2) := by decide +kernel
theorem d2_34 : decode method_5_code 34 = .ok (.iload_n 0, 1) := by decide +kernel
theorem d2_35 : decode method_5_code 35 = .ok (.bipush 16, 2) := by decide +kernel
theorem d2_37 : decode method_5_code 37 = .ok (.iushr, 1) := by decide +kernel
theorem d2_38 : decode method_5_code 38 = .ok (.iconst 3, 1) := by decide +kernel
theorem d2_39 : decode method_5_code 39 = .ok (.iand, 1) := by decide +kernel
theorem d2_40 : decode method_5_code 40 = .ok (.istore 5, 2) := by decide +kernel
theorem d2_42 : decode method_5_code 42 = .ok (.iload 5, 2) := by decide +kernel
theorem d2_44 : decode method_5_code 44 = .ok (.ifCond .ne 14, 3) := by decide +kernel
theorem d2_47 : decode method_5_code 47 = .ok (.new 57, 3) := by decide +kernel
theorem d2_50 : decode method_5_code 50 = .ok (.dup, 1) := by decide +kernel
theorem d2_51 : decode method_5_code 51 = .ok (.iconst 0, 1) := by decide +kernel
theorem d2_52 : decode method_5_code 52 = .ok (.newarray .char, 2) := by decide +kernel
theorem d2_54 : decode method_5_code 54 = .ok (.invokespecial 66, 3) := by decide +kernel
theorem d2_57 : decode method_5_code 57 = .ok (.areturn, 1) := by decide +kernel
theorem d2_58 : decode method_5_code 58 = .ok (.iload 5, 2) := by decide +kernel
theorem d2_60 : decode method_5_code 60 = .ok (.iconst 1, 1) := by decide +kernel
theorem d2_61 : decode method_5_code 61 = .ok (.if_icmp .ne 18, 3) := by decide +kernel
theorem d2_64 : decode method_5_code 64 = .ok (.new 57, 3) := by decide +kernel
theorem d2_67 : decode method_5_code 67 = .ok (.dup, 1) := by decide +kernel
theorem d2_68 : decode method_5_code 68 = .ok (.iconst 1, 1) := by decide +kernel
theorem d2_69 : decode method_5_code 69 = .ok (.newarray .char, 2) := by decide +kernel
theorem d2_71 : decode method_5_code 71 = .ok (.dup, 1) := by decide +kernel
theorem d2_72 : decode method_5_code 72 = .ok (.iconst 0, 1) := by decide +kernel
theorem d2_73 : decode method_5_code 73 = .ok (.iload_n 2, 1) := by decide +kernel
theorem d2_74 : decode method_5_code 74 = .ok (.castore, 1) := by decide +kernel
theorem d2_75 : decode method_5_code 75 = .ok (.invokespecial 66, 3) := by decide +kernel
theorem d2_78 : decode method_5_code 78 = .ok (.areturn, 1) := by decide +kernel
theorem d2_79 : decode method_5_code 79 = .ok (.iload 5, 2) := by decide +kernel
theorem d2_81 : decode method_5_code 81 = .ok (.iconst 2, 1) := by decide +kernel
theorem d2_82 : decode method_5_code 82 = .ok (.if_icmp .ne 22, 3) := by decide +kernel
theorem d2_85 : decode method_5_code 85 = .ok (.new 57, 3) := by decide +kernel
theorem d2_88 : decode method_5_code 88 = .ok (.dup, 1) := by decide +kernel
theorem d2_89 : decode method_5_code 89 = .ok (.iconst 2, 1) := by decide +kernel
theorem d2_90 : decode method_5_code 90 = .ok (.newarray .char, 2) := by decide +kernel
theorem d2_92 : decode method_5_code 92 = .ok (.dup, 1) := by decide +kernel
theorem d2_93 : decode method_5_code 93 = .ok (.iconst 0, 1) := by decide +kernel
theorem d2_94 : decode method_5_code 94 = .ok (.iload_n 2, 1) := by decide +kernel
theorem d2_95 : decode method_5_code 95 = .ok (.castore, 1) := by decide +kernel
theorem d2_96 : decode method_5_code 96 = .ok (.dup, 1) := by decide +kernel
theorem d2_97 : decode method_5_code 97 = .ok (.iconst 1, 1) := by decide +kernel
theorem d2_98 : decode method_5_code 98 = .ok (.iload_n 3, 1) := by decide +kernel
theorem d2_99 : decode method_5_code 99 = .ok (.castore, 1) := by decide +kernel
theorem d2_100 : decode method_5_code 100 = .ok (.invokespecial 66, 3) := by decide +kernel
theorem d2_103 : decode method_5_code 103 = .ok (.areturn, 1) := by decide +kernel
theorem d2_104 : decode method_5_code 104 = .ok (.new 57, 3) := by decide +kernel
theorem d2_107 : decode method_5_code 107 = .ok (.dup, 1) := by decide +kernel
theorem d2_108 : decode method_5_code 108 = .ok (.iconst 3, 1) := by decide +kernel
theorem d2_109 : decode method_5_code 109 = .ok (.newarray .char, 2) := by decide +kernel
theorem d2_111 : decode method_5_code 111 = .ok (.dup, 1) := by decide +kernel
theorem d2_112 : decode method_5_code 112 = .ok (.iconst 0, 1) := by decide +kernel
theorem d2_113 : decode method_5_code 113 = .ok (.iload_n 2, 1) := by decide +kernel
theorem d2_114 : decode method_5_code 114 = .ok (.castore, 1) := by decide +kernel
theorem d2_115 : decode method_5_code 115 = .ok (.dup, 1) := by decide +kernel
theorem d2_116 : decode method_5_code 116 = .ok (.iconst 1, 1) := by decide +kernel
theorem d2_117 : decode method_5_code 117 = .ok (.iload_n 3, 1) := by decide +kernel
theorem d2_118 : decode method_5_code 118 = .ok (.castore, 1) := by decide +kernel
theorem d2_119 : decode method_5_code 119 = .ok (.dup, 1) := by decide +kernel
theorem d2_120 : decode method_5_code 120 = .ok (.iconst 2, 1) := by decide +kernel
theorem d2_121 : decode method_5_code 121 = .ok (.iload 4, 2) := by decide +kernel
theorem d2_123 : decode method_5_code 123 = .ok (.castore, 1) := by decide +kernel
theorem d2_124 : decode method_5_code 124 = .ok (.invokespecial 66, 3) := by decide +kernel
theorem d2_127 : decode method_5_code 127 = .ok (.areturn, 1) := by decide +kernel
set_option maxRecDepth 65536 in
set_option maxHeartbeats 40000000 in
theorem b2 {l : Launch} {Z : State} {a0 : Array Value} (hw : HW a0 Z) (x0 : Int32) (x1 : Int32) {cs : Int32} {n0 : Nat} {h : Heap} (Z0 : n0 ≤ h.size) (S0 : Sta Z h "java/lang/String" "COMPACT_STRINGS" "Z" (.int cs)) (hcs : ¬ cs = (0 : Int32)) : OM [] l Z (⟨"com/example/quittance/quittance/AuditEntryWithInvoicePinLaw", "str", "(IZ)Ljava/lang/String;"⟩ : MethodName) method_5_code 6 (some (.object "java/lang/String")) ⟨4, 6, 12, 66⟩ n0 h #[(.int x0), (.int x1)] (fun v h' => ∃ u : Value, v = some u ∧ u.isRef = true ∧ Keep h h' [] ∧ SS Z h' u) 6 12 := by
  refine OM.of_body (own_EL hw) (ls := #[.val (.int x0), .val (.int x1), .unset, .unset, .unset, .unset]) (plainFor_of_name pn_5) (fun m => by first | (simp [entryFrame, mkF, argsToLocals, Value.category]; done) | rfl) ?_
  intro p e s m below meth c C
  refine OG.ow (OG.iloadN C d2_0 rfl (pc' := 1) rfl) ?_
  by_cases hc1 : x1 = (0 : Int32)
  · refine OG.ow (OG.ifYes C d2_1 ((if0 _ _).trans (teq hc1).1) (by decide) (pc' := 6) (by decide)) ?_
    refine OG.ow (OG.iloadN C d2_6 rfl (pc' := 7) rfl) ?_
    refine OG.ow (OG.sipush C d2_7 (z := (255 : Int32)) (by decide) (pc' := 10) rfl) ?_
    refine OG.ow (OG.iand C d2_10 (pc' := 11) rfl) ?_
    refine OG.ow (OG.i2c C d2_11 (pc' := 12) rfl) ?_
    generalize hb0 : (x0 &&& (255 : Int32)).toUInt32.toUInt16.toUInt32.toInt32 = c0
    obtain ⟨n0, k0⟩ := own_c hb0
    refine OG.ow (OG.istoreN C d2_12 (ls' := #[.val (.int x0), .val (.int x1), .val (.int c0), .unset, .unset, .unset]) rfl (pc' := 13) rfl) ?_
    refine OG.ow (OG.iloadN C d2_13 rfl (pc' := 14) rfl) ?_
    refine OG.ow (OG.bipush C d2_14 (z := (8 : Int32)) (by decide) (pc' := 16) rfl) ?_
    refine OG.ow (OG.iushr C d2_16 (pc' := 17) rfl) ?_
    refine OG.ow (OG.sipush C d2_17 (z := (255 : Int32)) (by decide) (pc' := 20) rfl) ?_
    refine OG.ow (OG.iand C d2_20 (pc' := 21) rfl) ?_
    refine OG.ow (OG.i2c C d2_21 (pc' := 22) rfl) ?_
    generalize hb1 : ((x0.toUInt32 >>> ((8 : Int32) &&& 31).toUInt32).toInt32 &&& (255 : Int32)).toUInt32.toUInt16.toUInt32.toInt32 = c1
    obtain ⟨n1, k1⟩ := own_c hb1
    refine OG.ow (OG.istoreN C d2_22 (ls' := #[.val (.int x0), .val (.int x1), .val (.int c0), .val (.int c1), .unset, .unset]) rfl (pc' := 23) rfl) ?_
    refine OG.ow (OG.iloadN C d2_23 rfl (pc' := 24) rfl) ?_
    refine OG.ow (OG.bipush C d2_24 (z := (24 : Int32)) (by decide) (pc' := 26) rfl) ?_
    refine OG.ow (OG.iushr C d2_26 (pc' := 27) rfl) ?_
    refine OG.ow (OG.sipush C d2_27 (z := (255 : Int32)) (by decide) (pc' := 30) rfl) ?_
    refine OG.ow (OG.iand C d2_30 (pc' := 31) rfl) ?_
    refine OG.ow (OG.i2c C d2_31 (pc' := 32) rfl) ?_
    generalize hb2 : ((x0.toUInt32 >>> ((24 : Int32) &&& 31).toUInt32).toInt32 &&& (255 : Int32)).toUInt32.toUInt16.toUInt32.toInt32 = c2
    obtain ⟨n2, k2⟩ := own_c hb2
    refine OG.ow (OG.istore C d2_32 (ls' := #[.val (.int x0), .val (.int x1), .val (.int c0), .val (.int c1), .val (.int c2), .unset]) rfl (pc' := 34) rfl) ?_
    refine OG.ow (OG.iloadN C d2_34 rfl (pc' := 35) rfl) ?_
    refine OG.ow (OG.bipush C d2_35 (z := (16 : Int32)) (by decide) (pc' := 37) rfl) ?_
    refine OG.ow (OG.iushr C d2_37 (pc' := 38) rfl) ?_
    refine OG.ow (OG.iconst C d2_38 (z := (3 : Int32)) rfl (pc' := 39) rfl) ?_
    refine OG.ow (OG.iand C d2_39 (pc' := 40) rfl) ?_
    generalize ((x0.toUInt32 >>> ((16 : Int32) &&& 31).toUInt32).toInt32 &&& (3 : Int32)) = ln
    refine OG.ow (OG.istore C d2_40 (ls' := #[.val (.int x0), .val (.int x1), .val (.int c0), .val (.int c1), .val (.int c2), .val (.int ln)]) rfl (pc' := 42) rfl) ?_
    refine OG.ow (OG.iload C d2_42 rfl (pc' := 44) rfl) ?_
    by_cases hc2 : ln = (0 : Int32)
    · refine OG.ow (OG.ifNo C d2_44 ((if0 _ _).trans (teq hc2).2) (pc' := 47) rfl) ?_
      refine OW.newO C (w11 hw) (w12 hw) (w13 hw) d2_47 (by decide) (by decide) (pc' := 50) rfl ?_
      intro a3 h4 ga3 Eh4 Aa3 Da3
      refine OG.ow (OG.dup C d2_50 rfl (pc' := 51) rfl) ?_
      refine OG.ow (OG.iconst C d2_51 (z := (0 : Int32)) rfl (pc' := 52) rfl) ?_
      refine OW.newP C (ty := .char) rfl (w14 hw) (by decide) (cap := 0) (by decide) (by decide) d2_52 (by decide) (by decide) (pc' := 54) rfl ?_
      intro a5 h6 ga5 Eh6 Aa5
      have G7 := (Exa.ext Eh6 Aa3)
      have G8 := (Fld.ext Eh6 (show Fld Z h4 a3 "java/lang/String" "value" "[B" .null from Da3 (Or.inr (w27 hw)) (ty := (.array .byte)) (by decide)))
      have G9 := (Fld.ext Eh6 (show Fld Z h4 a3 "java/lang/String" "coder" "B" (.int (0 : Int32)) from Da3 (Or.inr (w28 hw)) (ty := .byte) (by decide)))
      refine OW.init C (w15 hw) (w16 hw) (w13 hw) (w17 hw) rfl (by decide) (bI1_0 hw a3 a5 (Nat.le_trans (Nat.le_trans Z0 Eh4.1) Eh6.1) (Nat.le_trans Z0 (Nat.le_of_eq ga3)) G7 G8 G9 (show OA Z h6 a5 .char [] from Aa5)) (allC (i := 1) rfl allN) d2_54 pd_6 rfl (argsL := [(.ref a5)]) (rest := [(.ref a3)]) rfl rfl (W := 1) rfl (by decide) (by decide) (by decide) (by decide) (pc' := 57) rfl ?_
      intro vh10 h10 qh10
      obtain ⟨rfl, Kh10, b11, Vh10, Ch10, Ab11⟩ := qh10
      refine OW.retA C rfl rfl d2_57 (by decide) (by decide) ?_
      have G12 := (G7.keep Kh10)
      exact ⟨_, rfl, rfl, ((((Keep.refl h []).ext Eh4).ext Eh6).trans Kh10 (allS (Or.inr (Nat.le_trans (Nat.le_refl _) (Nat.le_of_eq ga3))) all0)), SS.of G12⟩
    · refine OG.ow (OG.ifYes C d2_44 ((if0 _ _).trans (feq hc2).2) (by decide) (pc' := 58) (by decide)) ?_
      refine OG.ow (OG.iload C d2_58 rfl (pc' := 60) rfl) ?_
      refine OG.ow (OG.iconst C d2_60 (z := (1 : Int32)) rfl (pc' := 61) rfl) ?_
      by_cases hc13 : ln = (1 : Int32)
      · refine OG.ow (OG.icmpNo C d2_61 (teq hc13).2 (pc' := 64) rfl) ?_
        refine OW.newO C (w11 hw) (w12 hw) (w13 hw) d2_64 (by decide) (by decide) (pc' := 67) rfl ?_
        intro a14 h15 ga14 Eh15 Aa14 Da14
        refine OG.ow (OG.dup C d2_67 rfl (pc' := 68) rfl) ?_
        refine OG.ow (OG.iconst C d2_68 (z := (1 : Int32)) rfl (pc' := 69) rfl) ?_
        refine OW.newP C (ty := .char) rfl (w14 hw) (by decide) (cap := 1) (by decide) (by decide) d2_69 (by decide) (by decide) (pc' := 71) rfl ?_
        intro a16 h17 ga16 Eh17 Aa16
        refine OG.ow (OG.dup C d2_71 rfl (pc' := 72) rfl) ?_
        refine OG.ow (OG.iconst C d2_72 (z := (0 : Int32)) rfl (pc' := 73) rfl) ?_
        refine OG.ow (OG.iloadN C d2_73 rfl (pc' := 74) rfl) ?_
        refine OW.castore C (show OA Z h17 a16 .char [(.int (0 : Int32))] from Aa16) (own_ib (n := 1) rfl (by decide)) (Nat.le_trans (Nat.le_trans Z0 Eh15.1) (Nat.le_of_eq ga16)) (fun _ _ S => S _ (List.mem_of_getElem? (i := 0) rfl)) d2_74 (pc' := 75) rfl ?_
        intro h18 Wh18
        rw [n0] at Wh18
        have G19 : OA Z h18 a16 .char [(.int c0)] := OA.same (show OA Z h17 a16 .char [(.int (0 : Int32))] from Aa16) Wh18
        have G20 := (Exa.wr Wh18 (Exa.ext Eh17 Aa14))
        have G21 := (Fld.other Wh18 (Fld.ext Eh17 (show Fld Z h15 a14 "java/lang/String" "value" "[B" .null from Da14 (Or.inr (w27 hw)) (ty := (.array .byte)) (by decide))) (Or.inl (Nat.ne_of_lt (Nat.lt_of_lt_of_le (Nat.lt_of_lt_of_le (Aa14).lt (Nat.le_refl _)) (Nat.le_of_eq ga16)))))
        have G22 := (Fld.other Wh18 (Fld.ext Eh17 (show Fld Z h15 a14 "java/lang/String" "coder" "B" (.int (0 : Int32)) from Da14 (Or.inr (w28 hw)) (ty := .byte) (by decide))) (Or.inl (Nat.ne_of_lt (Nat.lt_of_lt_of_le (Nat.lt_of_lt_of_le (Aa14).lt (Nat.le_refl _)) (Nat.le_of_eq ga16)))))
        have G23 := (Sta.wr Wh18 (Sta.ext Eh17 (Sta.ext Eh15 S0)))
        refine OW.init C (w15 hw) (w16 hw) (w13 hw) (w17 hw) rfl (by decide) (bI1_1 hw a14 a16 (Nat.le_trans (Nat.le_trans (Nat.le_trans Z0 Eh15.1) Eh17.1) (Nat.le_of_eq Wh18.size.symm)) (Nat.le_trans Z0 (Nat.le_of_eq ga14)) G20 G21 G22 G19 G23 hcs k0) (allC (i := 1) rfl allN) d2_75 pd_6 rfl (argsL := [(.ref a16)]) (rest := [(.ref a14)]) rfl rfl (W := 1) rfl (by decide) (by decide) (by decide) (by decide) (pc' := 78) rfl ?_
        intro vh24 h24 qh24
        obtain ⟨rfl, Kh24, a25, ga25, Vh24, Ch24, Aa25⟩ := qh24
        refine OW.retA C rfl rfl d2_78 (by decide) (by decide) ?_
        have G26 := (G20.keep Kh24)
        exact ⟨_, rfl, rfl, (((((Keep.refl h []).ext Eh15).ext Eh17).wr Wh18 (Or.inr (Nat.le_trans (Nat.le_trans (Nat.le_refl _) Eh15.1) (Nat.le_of_eq ga16)))).trans Kh24 (allS (Or.inr (Nat.le_trans (Nat.le_refl _) (Nat.le_of_eq ga14))) all0)), SS.of G26⟩
      · refine OG.ow (OG.icmpYes C d2_61 (feq hc13).2 (by decide) (pc' := 79) (by decide)) ?_
        refine OG.ow (OG.iload C d2_79 rfl (pc' := 81) rfl) ?_
        refine OG.ow (OG.iconst C d2_81 (z := (2 : Int32)) rfl (pc' := 82) rfl) ?_
        by_cases hc27 : ln = (2 : Int32)
        · refine OG.ow (OG.icmpNo C d2_82 (teq hc27).2 (pc' := 85) rfl) ?_
          refine OW.newO C (w11 hw) (w12 hw) (w13 hw) d2_85 (by decide) (by decide) (pc' := 88) rfl ?_
          intro a28 h29 ga28 Eh29 Aa28 Da28
          refine OG.ow (OG.dup C d2_88 rfl (pc' := 89) rfl) ?_
          refine OG.ow (OG.iconst C d2_89 (z := (2 : Int32)) rfl (pc' := 90) rfl) ?_
          refine OW.newP C (ty := .char) rfl (w14 hw) (by decide) (cap := 2) (by decide) (by decide) d2_90 (by decide) (by decide) (pc' := 92) rfl ?_
          intro a30 h31 ga30 Eh31 Aa30
          refine OG.ow (OG.dup C d2_92 rfl (pc' := 93) rfl) ?_
          refine OG.ow (OG.iconst C d2_93 (z := (0 : Int32)) rfl (pc' := 94) rfl) ?_
          refine OG.ow (OG.iloadN C d2_94 rfl (pc' := 95) rfl) ?_
          refine OW.castore C (show OA Z h31 a30 .char [(.int (0 : Int32)), (.int (0 : Int32))] from Aa30) (own_ib (n := 2) rfl (by decide)) (Nat.le_trans (Nat.le_trans Z0 Eh29.1) (Nat.le_of_eq ga30)) (fun _ _ S => S _ (List.mem_of_getElem? (i := 0) rfl)) d2_95 (pc' := 96) rfl ?_
          intro h32 Wh32
          rw [n0] at Wh32
          have G33 : OA Z h32 a30 .char [(.int c0), (.int (0 : Int32))] := OA.same (show OA Z h31 a30 .char [(.int (0 : Int32)), (.int (0 : Int32))] from Aa30) Wh32
          refine OG.ow (OG.dup C d2_96 rfl (pc' := 97) rfl) ?_
          refine OG.ow (OG.iconst C d2_97 (z := (1 : Int32)) rfl (pc' := 98) rfl) ?_
          refine OG.ow (OG.iloadN C d2_98 rfl (pc' := 99) rfl) ?_
          refine OW.castore C G33 (own_ib (n := 2) rfl (by decide)) (Nat.le_trans (Nat.le_trans Z0 Eh29.1) (Nat.le_of_eq ga30)) (fun _ _ S => S _ (List.mem_of_getElem? (i := 0) rfl)) d2_99 (pc' := 100) rfl ?_
          intro h34 Wh34
          rw [n1] at Wh34
          have G35 : OA Z h34 a30 .char [(.int c0), (.int c1)] := OA.same G33 Wh34
          have G36 := (Exa.wr Wh34 (Exa.wr Wh32 (Exa.ext Eh31 Aa28)))
          have G37 := (Fld.other Wh34 (Fld.other Wh32 (Fld.ext Eh31 (show Fld Z h29 a28 "java/lang/String" "value" "[B" .null from Da28 (Or.inr (w27 hw)) (ty := (.array .byte)) (by decide))) (Or.inl (Nat.ne_of_lt (Nat.lt_of_lt_of_le (Nat.lt_of_lt_of_le (Aa28).lt (Nat.le_refl _)) (Nat.le_of_eq ga30))))) (Or.inl (Nat.ne_of_lt (Nat.lt_of_lt_of_le (Nat.lt_of_lt_of_le (Aa28).lt (Nat.le_refl _)) (Nat.le_of_eq ga30)))))
          have G38 := (Fld.other Wh34 (Fld.other Wh32 (Fld.ext Eh31 (show Fld Z h29 a28 "java/lang/String" "coder" "B" (.int (0 : Int32)) from Da28 (Or.inr (w28 hw)) (ty := .byte) (by decide))) (Or.inl (Nat.ne_of_lt (Nat.lt_of_lt_of_le (Nat.lt_of_lt_of_le (Aa28).lt (Nat.le_refl _)) (Nat.le_of_eq ga30))))) (Or.inl (Nat.ne_of_lt (Nat.lt_of_lt_of_le (Nat.lt_of_lt_of_le (Aa28).lt (Nat.le_refl _)) (Nat.le_of_eq ga30)))))
          have G39 := (Sta.wr Wh34 (Sta.wr Wh32 (Sta.ext Eh31 (Sta.ext Eh29 S0))))
          refine OW.init C (w15 hw) (w16 hw) (w13 hw) (w17 hw) rfl (by decide) (bI1_2 hw a28 a30 (Nat.le_trans (Nat.le_trans (Nat.le_trans (Nat.le_trans Z0 Eh29.1) Eh31.1) (Nat.le_of_eq Wh32.size.symm)) (Nat.le_of_eq Wh34.size.symm)) (Nat.le_trans Z0 (Nat.le_of_eq ga28)) G36 G37 G38 G35 G39 hcs k0 k1) (allC (i := 1) rfl allN) d2_100 pd_6 rfl (argsL := [(.ref a30)]) (rest := [(.ref a28)]) rfl rfl (W := 1) rfl (by decide) (by decide) (by decide) (by decide) (pc' := 103) rfl ?_
          intro vh40 h40 qh40
          obtain ⟨rfl, Kh40, a41, ga41, Vh40, Ch40, Aa41⟩ := qh40
          refine OW.retA C rfl rfl d2_103 (by decide) (by decide) ?_
          have G42 := (G36.keep Kh40)
          exact ⟨_, rfl, rfl, ((((((Keep.refl h []).ext Eh29).ext Eh31).wr Wh32 (Or.inr (Nat.le_trans (Nat.le_trans (Nat.le_refl _) Eh29.1) (Nat.le_of_eq ga30)))).wr Wh34 (Or.inr (Nat.le_trans (Nat.le_trans (Nat.le_refl _) Eh29.1) (Nat.le_of_eq ga30)))).trans Kh40 (allS (Or.inr (Nat.le_trans (Nat.le_refl _) (Nat.le_of_eq ga28))) all0)), SS.of G42⟩
        · refine OG.ow (OG.icmpYes C d2_82 (feq hc27).2 (by decide) (pc' := 104) (by decide)) ?_
          refine OW.newO C (w11 hw) (w12 hw) (w13 hw) d2_104 (by decide) (by decide) (pc' := 107) rfl ?_
          intro a43 h44 ga43 Eh44 Aa43 Da43
          refine OG.ow (OG.dup C d2_107 rfl (pc' := 108) rfl) ?_
          refine OG.ow (OG.iconst C d2_108 (z := (3 : Int32)) rfl (pc' := 109) rfl) ?_
          refine OW.newP C (ty := .char) rfl (w14 hw) (by decide) (cap := 3) (by decide) (by decide) d2_109 (by decide) (by decide) (pc' := 111) rfl ?_
          intro a45 h46 ga45 Eh46 Aa45
          refine OG.ow (OG.dup C d2_111 rfl (pc' := 112) rfl) ?_
          refine OG.ow (OG.iconst C d2_112 (z := (0 : Int32)) rfl (pc' := 113) rfl) ?_
          refine OG.ow (OG.iloadN C d2_113 rfl (pc' := 114) rfl) ?_
          refine OW.castore C (show OA Z h46 a45 .char [(.int (0 : Int32)), (.int (0 : Int32)), (.int (0 : Int32))] from Aa45) (own_ib (n := 3) rfl (by decide)) (Nat.le_trans (Nat.le_trans Z0 Eh44.1) (Nat.le_of_eq ga45)) (fun _ _ S => S _ (List.mem_of_getElem? (i := 0) rfl)) d2_114 (pc' := 115) rfl ?_
          intro h47 Wh47
          rw [n0] at Wh47
          have G48 : OA Z h47 a45 .char [(.int c0), (.int (0 : Int32)), (.int (0 : Int32))] := OA.same (show OA Z h46 a45 .char [(.int (0 : Int32)), (.int (0 : Int32)), (.int (0 : Int32))] from Aa45) Wh47
          refine OG.ow (OG.dup C d2_115 rfl (pc' := 116) rfl) ?_
          refine OG.ow (OG.iconst C d2_116 (z := (1 : Int32)) rfl (pc' := 117) rfl) ?_
          refine OG.ow (OG.iloadN C d2_117 rfl (pc' := 118) rfl) ?_
          refine OW.castore C G48 (own_ib (n := 3) rfl (by decide)) (Nat.le_trans (Nat.le_trans Z0 Eh44.1) (Nat.le_of_eq ga45)) (fun _ _ S => S _ (List.mem_of_getElem? (i := 0) rfl)) d2_118 (pc' := 119) rfl ?_
          intro h49 Wh49
          rw [n1] at Wh49
          have G50 : OA Z h49 a45 .char [(.int c0), (.int c1), (.int (0 : Int32))] := OA.same G48 Wh49
          refine OG.ow (OG.dup C d2_119 rfl (pc' := 120) rfl) ?_
          refine OG.ow (OG.iconst C d2_120 (z := (2 : Int32)) rfl (pc' := 121) rfl) ?_
          refine OG.ow (OG.iload C d2_121 rfl (pc' := 123) rfl) ?_
          refine OW.castore C G50 (own_ib (n := 3) rfl (by decide)) (Nat.le_trans (Nat.le_trans Z0 Eh44.1) (Nat.le_of_eq ga45)) (fun _ _ S => S _ (List.mem_of_getElem? (i := 0) rfl)) d2_123 (pc' := 124) rfl ?_
          intro h51 Wh51
          rw [n2] at Wh51
          have G52 : OA Z h51 a45 .char [(.int c0), (.int c1), (.int c2)] := OA.same G50 Wh51
          have G53 := (Exa.wr Wh51 (Exa.wr Wh49 (Exa.wr Wh47 (Exa.ext Eh46 Aa43))))
          have G54 := (Fld.other Wh51 (Fld.other Wh49 (Fld.other Wh47 (Fld.ext Eh46 (show Fld Z h44 a43 "java/lang/String" "value" "[B" .null from Da43 (Or.inr (w27 hw)) (ty := (.array .byte)) (by decide))) (Or.inl (Nat.ne_of_lt (Nat.lt_of_lt_of_le (Nat.lt_of_lt_of_le (Aa43).lt (Nat.le_refl _)) (Nat.le_of_eq ga45))))) (Or.inl (Nat.ne_of_lt (Nat.lt_of_lt_of_le (Nat.lt_of_lt_of_le (Aa43).lt (Nat.le_refl _)) (Nat.le_of_eq ga45))))) (Or.inl (Nat.ne_of_lt (Nat.lt_of_lt_of_le (Nat.lt_of_lt_of_le (Aa43).lt (Nat.le_refl _)) (Nat.le_of_eq ga45)))))
          have G55 := (Fld.other Wh51 (Fld.other Wh49 (Fld.other Wh47 (Fld.ext Eh46 (show Fld Z h44 a43 "java/lang/String" "coder" "B" (.int (0 : Int32)) from Da43 (Or.inr (w28 hw)) (ty := .byte) (by decide))) (Or.inl (Nat.ne_of_lt (Nat.lt_of_lt_of_le (Nat.lt_of_lt_of_le (Aa43).lt (Nat.le_refl _)) (Nat.le_of_eq ga45))))) (Or.inl (Nat.ne_of_lt (Nat.lt_of_lt_of_le (Nat.lt_of_lt_of_le (Aa43).lt (Nat.le_refl _)) (Nat.le_of_eq ga45))))) (Or.inl (Nat.ne_of_lt (Nat.lt_of_lt_of_le (Nat.lt_of_lt_of_le (Aa43).lt (Nat.le_refl _)) (Nat.le_of_eq ga45)))))
          have G56 := (Sta.wr Wh51 (Sta.wr Wh49 (Sta.wr Wh47 (Sta.ext Eh46 (Sta.ext Eh44 S0)))))
          refine OW.init C (w15 hw) (w16 hw) (w13 hw) (w17 hw) rfl (by decide) (bI1_3 hw a43 a45 (Nat.le_trans (Nat.le_trans (Nat.le_trans (Nat.le_trans (Nat.le_trans Z0 Eh44.1) Eh46.1) (Nat.le_of_eq Wh47.size.symm)) (Nat.le_of_eq Wh49.size.symm)) (Nat.le_of_eq Wh51.size.symm)) (Nat.le_trans Z0 (Nat.le_of_eq ga43)) G53 G54 G55 G52 G56 hcs k0 k1 k2) (allC (i := 1) rfl allN) d2_124 pd_6 rfl (argsL := [(.ref a45)]) (rest := [(.ref a43)]) rfl rfl (W := 1) rfl (by decide) (by decide) (by decide) (by decide) (pc' := 127) rfl ?_
          intro vh57 h57 qh57
          obtain ⟨rfl, Kh57, a58, ga58, Vh57, Ch57, Aa58⟩ := qh57
          refine OW.retA C rfl rfl d2_127 (by decide) (by decide) ?_
          have G59 := (G53.keep Kh57)
          exact ⟨_, rfl, rfl, (((((((Keep.refl h []).ext Eh44).ext Eh46).wr Wh47 (Or.inr (Nat.le_trans (Nat.le_trans (Nat.le_refl _) Eh44.1) (Nat.le_of_eq ga45)))).wr Wh49 (Or.inr (Nat.le_trans (Nat.le_trans (Nat.le_refl _) Eh44.1) (Nat.le_of_eq ga45)))).wr Wh51 (Or.inr (Nat.le_trans (Nat.le_trans (Nat.le_refl _) Eh44.1) (Nat.le_of_eq ga45)))).trans Kh57 (allS (Or.inr (Nat.le_trans (Nat.le_refl _) (Nat.le_of_eq ga43))) all0)), SS.of G59⟩
  · refine OG.ow (OG.ifNo C d2_1 ((if0 _ _).trans (feq hc1).1) (pc' := 4) rfl) ?_
    refine OG.ow (OG.aconst_null C d2_4 (pc' := 5) rfl) ?_
    refine OW.retA C rfl rfl d2_5 (by decide) (by decide) ?_
    exact ⟨_, rfl, rfl, (Keep.refl h []), SS.null⟩
theorem d13_0 : decode jdk_42_method_66_code 0 = .ok (.aload_n 0, 1) := by decide +kernel
theorem d13_1 : decode jdk_42_method_66_code 1 = .ok (.aload_n 1, 1) := by decide +kernel
theorem d13_2 : decode jdk_42_method_66_code 2 = .ok (.if_acmp .ne 5, 3) := by decide +kernel
theorem d13_5 : decode jdk_42_method_66_code 5 = .ok (.iconst 1, 1) := by decide +kernel
theorem d13_6 : decode jdk_42_method_66_code 6 = .ok (.ireturn, 1) := by decide +kernel
theorem d13_7 : decode jdk_42_method_66_code 7 = .ok (.aload_n 1, 1) := by decide +kernel
theorem d13_8 : decode jdk_42_method_66_code 8 = .ok (.instanceof 10, 3) := by decide +kernel
theorem d13_11 : decode jdk_42_method_66_code 11 = .ok (.ifCond .eq 43, 3) := by decide +kernel
theorem d13_14 : decode jdk_42_method_66_code 14 = .ok (.aload_n 1, 1) := by decide +kernel
theorem d13_15 : decode jdk_42_method_66_code 15 = .ok (.checkcast 10, 3) := by decide +kernel
theorem d13_18 : decode jdk_42_method_66_code 18 = .ok (.astore_n 2, 1) := by decide +kernel
theorem d13_19 : decode jdk_42_method_66_code 19 = .ok (.getstatic 38, 3) := by decide +kernel
theorem d13_22 : decode jdk_42_method_66_code 22 = .ok (.ifCond .eq 14, 3) := by decide +kernel
theorem d13_25 : decode jdk_42_method_66_code 25 = .ok (.aload_n 0, 1) := by decide +kernel
theorem d13_26 : decode jdk_42_method_66_code 26 = .ok (.getfield 15, 3) := by decide +kernel
theorem d13_29 : decode jdk_42_method_66_code 29 = .ok (.aload_n 2, 1) := by decide +kernel
theorem d13_30 : decode jdk_42_method_66_code 30 = .ok (.getfield 15, 3) := by decide +kernel
theorem d13_33 : decode jdk_42_method_66_code 33 = .ok (.if_icmp .ne 21, 3) := by decide +kernel
theorem d13_36 : decode jdk_42_method_66_code 36 = .ok (.aload_n 0, 1) := by decide +kernel
theorem d13_37 : decode jdk_42_method_66_code 37 = .ok (.getfield 9, 3) := by decide +kernel
theorem d13_40 : decode jdk_42_method_66_code 40 = .ok (.aload_n 2, 1) := by decide +kernel
theorem d13_41 : decode jdk_42_method_66_code 41 = .ok (.getfield 9, 3) := by decide +kernel
theorem d13_44 : decode jdk_42_method_66_code 44 = .ok (.invokestatic 541, 3) := by decide +kernel
theorem d13_47 : decode jdk_42_method_66_code 47 = .ok (.ifCond .eq 7, 3) := by decide +kernel
theorem d13_50 : decode jdk_42_method_66_code 50 = .ok (.iconst 1, 1) := by decide +kernel
theorem d13_51 : decode jdk_42_method_66_code 51 = .ok (.goto 4, 3) := by decide +kernel
theorem d13_54 : decode jdk_42_method_66_code 54 = .ok (.iconst 0, 1) := by decide +kernel
theorem d13_55 : decode jdk_42_method_66_code 55 = .ok (.ireturn, 1) := by decide +kernel
set_option maxRecDepth 65536 in
set_option maxHeartbeats 40000000 in
theorem b13 {l : Launch} {Z : State} {a0 : Array Value} (hw : HW a0 Z) (x0 : Addr) (x1 : Addr) {n0 : Nat} {h : Heap} (Z0 : n0 ≤ h.size) (hx : x0 = x1) : OM [] l Z (⟨"java/lang/String", "equals", "(Ljava/lang/Object;)Z"⟩ : MethodName) jdk_42_method_66_code 3 (some .boolean) ⟨0, 0, 0, 0⟩ n0 h #[(.ref x0), (.ref x1)] (fun v h' => v = some (.int (1 : Int32)) ∧ h' = h) 0 0 := by
  refine OM.of_body (own_EL hw) (ls := #[.val (.ref x0), .val (.ref x1), .unset]) (plainFor_of_name pn_0) (fun m => by first | (simp [entryFrame, mkF, argsToLocals, Value.category]; done) | rfl) ?_
  intro p e s m below meth c C
  refine OG.ow (OG.aloadN C d13_0 rfl rfl (pc' := 1) rfl) ?_
  refine OG.ow (OG.aloadN C d13_1 rfl rfl (pc' := 2) rfl) ?_
  refine OG.ow (OG.acmp C d13_2 rfl rfl (same := true) (decide_eq_true (congrArg Value.ref hx)) (by decide) (pc' := 5) (by decide)) ?_
  refine OG.ow (OG.iconst C d13_5 (z := (1 : Int32)) rfl (pc' := 6) rfl) ?_
  refine OW.retN (t := .boolean) C (by simp) d13_6 (by decide) (by decide) ?_
  exact ⟨rfl, rfl⟩
theorem d12_0 : decode method_3_code 0 = .ok (.aload_n 0, 1) := by decide +kernel
theorem d12_1 : decode method_3_code 1 = .ok (.ifnonnull 13, 3) := by decide +kernel
theorem d12_4 : decode method_3_code 4 = .ok (.aload_n 1, 1) := by decide +kernel
theorem d12_5 : decode method_3_code 5 = .ok (.ifnonnull 7, 3) := by decide +kernel
theorem d12_8 : decode method_3_code 8 = .ok (.iconst 1, 1) := by decide +kernel
theorem d12_9 : decode method_3_code 9 = .ok (.goto 4, 3) := by decide +kernel
theorem d12_12 : decode method_3_code 12 = .ok (.iconst 0, 1) := by decide +kernel
theorem d12_13 : decode method_3_code 13 = .ok (.ireturn, 1) := by decide +kernel
theorem d12_14 : decode method_3_code 14 = .ok (.aload_n 1, 1) := by decide +kernel
theorem d12_15 : decode method_3_code 15 = .ok (.ifnull 15, 3) := by decide +kernel
theorem d12_18 : decode method_3_code 18 = .ok (.aload_n 0, 1) := by decide +kernel
theorem d12_19 : decode method_3_code 19 = .ok (.aload_n 1, 1) := by decide +kernel
theorem d12_20 : decode method_3_code 20 = .ok (.invokevirtual 56, 3) := by decide +kernel
theorem d12_23 : decode method_3_code 23 = .ok (.ifCond .eq 7, 3) := by decide +kernel
theorem d12_26 : decode method_3_code 26 = .ok (.iconst 1, 1) := by decide +kernel
theorem d12_27 : decode method_3_code 27 = .ok (.goto 4, 3) := by decide +kernel
theorem d12_30 : decode method_3_code 30 = .ok (.iconst 0, 1) := by decide +kernel
theorem d12_31 : decode method_3_code 31 = .ok (.ireturn, 1) := by decide +kernel
set_option maxRecDepth 65536 in
set_option maxHeartbeats 40000000 in
theorem bSN {l : Launch} {Z : State} {a0 : Array Value} (hw : HW a0 Z)  {n0 : Nat} {h : Heap} (Z0 : n0 ≤ h.size) : OM [] l Z (⟨"com/example/quittance/quittance/AuditEntryWithInvoicePinLaw", "same", "(Ljava/lang/String;Ljava/lang/String;)Z"⟩ : MethodName) method_3_code 2 (some .boolean) ⟨1, 0, 0, 14⟩ n0 h #[.null, .null] (fun v h' => v = some (.int (1 : Int32)) ∧ h' = h) 0 0 := by
  refine OM.of_body (own_EL hw) (ls := #[.val .null, .val .null]) (plainFor_of_name pn_5) (fun m => by first | (simp [entryFrame, mkF, argsToLocals, Value.category]; done) | rfl) ?_
  intro p e s m below meth c C
  refine OG.ow (OG.aloadN C d12_0 rfl rfl (pc' := 1) rfl) ?_
  refine OG.ow (OG.ifnonnullNo C d12_1 (pc' := 4) rfl) ?_
  refine OG.ow (OG.aloadN C d12_4 rfl rfl (pc' := 5) rfl) ?_
  refine OG.ow (OG.ifnonnullNo C d12_5 (pc' := 8) rfl) ?_
  refine OG.ow (OG.iconst C d12_8 (z := (1 : Int32)) rfl (pc' := 9) rfl) ?_
  refine OG.ow (OG.goto C d12_9 (by decide) (pc' := 13) (by decide)) ?_
  refine OW.retN (t := .boolean) C (by simp) d12_13 (by decide) (by decide) ?_
  exact ⟨rfl, rfl⟩
set_option maxRecDepth 65536 in
set_option maxHeartbeats 40000000 in
theorem bSR {l : Launch} {Z : State} {a0 : Array Value} (hw : HW a0 Z) (x0 : Addr) (x1 : Addr) {n0 : Nat} {h : Heap} (Z0 : n0 ≤ h.size) (E0 : Exa Z h x0 "java/lang/String") (hx : x0 = x1) : OM [] l Z (⟨"com/example/quittance/quittance/AuditEntryWithInvoicePinLaw", "same", "(Ljava/lang/String;Ljava/lang/String;)Z"⟩ : MethodName) method_3_code 2 (some .boolean) ⟨1, 0, 0, 14⟩ n0 h #[(.ref x0), (.ref x1)] (fun v h' => v = some (.int (1 : Int32)) ∧ h' = h) 0 0 := by
  refine OM.of_body (own_EL hw) (ls := #[.val (.ref x0), .val (.ref x1)]) (plainFor_of_name pn_5) (fun m => by first | (simp [entryFrame, mkF, argsToLocals, Value.category]; done) | rfl) ?_
  intro p e s m below meth c C
  refine OG.ow (OG.aloadN C d12_0 rfl rfl (pc' := 1) rfl) ?_
  refine OG.ow (OG.ifnonnullYes C d12_1 (by decide) (pc' := 14) (by decide)) ?_
  refine OG.ow (OG.aloadN C d12_14 rfl rfl (pc' := 15) rfl) ?_
  refine OG.ow (OG.ifnullNo C d12_15 (pc' := 18) rfl) ?_
  refine OG.ow (OG.aloadN C d12_18 rfl rfl (pc' := 19) rfl) ?_
  refine OG.ow (OG.aloadN C d12_19 rfl rfl (pc' := 20) rfl) ?_
  refine OG.ow (OG.callV C (w84 hw) (w85 hw) (w87 hw) (w86 hw) (w13 hw) (w88 hw) (by decide) E0 (b13 hw x0 x1 Z0 hx) allN d12_20 pd_7 rfl (argsL := [(.ref x1)]) (rest := []) rfl rfl (W := 0) rfl (by decide) (by decide) (pc' := 23) rfl) ?_
  refine OG.ow (OG.ifNo C d12_23 ((if0 _ _).trans (feq (by decide : ¬ ((1 : Int32) = (0 : Int32)))).1) (pc' := 26) rfl) ?_
  refine OG.ow (OG.iconst C d12_26 (z := (1 : Int32)) rfl (pc' := 27) rfl) ?_
  refine OG.ow (OG.goto C d12_27 (by decide) (pc' := 31) (by decide)) ?_
  refine OW.retN (t := .boolean) C (by simp) d12_31 (by decide) (by decide) ?_
  exact ⟨rfl, rfl⟩
theorem bS {l : Launch} {Z : State} {a0 : Array Value} (hw : HW a0 Z) (v : Value) (rv : v.isRef = true) {n0 : Nat} {h : Heap} (Z0 : n0 ≤ h.size) (S : SS Z h v) : OM [] l Z (⟨"com/example/quittance/quittance/AuditEntryWithInvoicePinLaw", "same", "(Ljava/lang/String;Ljava/lang/String;)Z"⟩ : MethodName) method_3_code 2 (some .boolean) ⟨1, 0, 0, 14⟩ n0 h #[v, v] (fun w h' => w = some (.int (1 : Int32)) ∧ h' = h) 0 0 := by
  rcases ref_cases rv with rfl | ⟨a, rfl⟩
  · exact bSN hw Z0
  · exact bSR hw a a Z0 (S a rfl) rfl
theorem d17_0 : decode prog_2_method_14_code 0 = .ok (.aload_n 0, 1) := by decide +kernel
theorem d17_1 : decode prog_2_method_14_code 1 = .ok (.getfield 7, 3) := by decide +kernel
theorem d17_4 : decode prog_2_method_14_code 4 = .ok (.lreturn, 1) := by decide +kernel
set_option maxRecDepth 65536 in
set_option maxHeartbeats 40000000 in
theorem b17 {l : Launch} {Z : State} {a0 : Array Value} (hw : HW a0 Z) (x0 : Addr) {z : Int64} {n0 : Nat} {h : Heap} (Z0 : n0 ≤ h.size) (F0 : Fld Z h x0 "com/example/quittance/quittance/Amount" "cents" "J" (.long z)) : OM [] l Z (⟨"com/example/quittance/quittance/Amount", "cents", "()J"⟩ : MethodName) prog_2_method_14_code 1 (some .long) ⟨0, 0, 0, 0⟩ n0 h #[(.ref x0)] (fun v h' => v = some (.long z) ∧ h' = h) 0 0 := by
  refine OM.of_body (own_EL hw) (ls := #[.val (.ref x0)]) (plainFor_of_name pn_3) (fun m => by first | (simp [entryFrame, mkF, argsToLocals, Value.category]; done) | rfl) ?_
  intro p e s m below meth c C
  refine OG.ow (OG.aloadN C d17_0 rfl rfl (pc' := 1) rfl) ?_
  refine OG.ow (OG.getF C (host := "") (Or.inl (w45 hw)) Via.refl F0 d17_1 (pc' := 4) rfl) ?_
  refine OW.retL C d17_4 (by decide) (by decide) ?_
  exact ⟨rfl, rfl⟩
theorem d16_0 : decode method_4_code 0 = .ok (.iload_n 1, 1) := by decide +kernel
theorem d16_1 : decode method_4_code 1 = .ok (.ifCond .eq 13, 3) := by decide +kernel
theorem d16_4 : decode method_4_code 4 = .ok (.aload_n 0, 1) := by decide +kernel
theorem d16_5 : decode method_4_code 5 = .ok (.ifnonnull 7, 3) := by decide +kernel
theorem d16_8 : decode method_4_code 8 = .ok (.iconst 1, 1) := by decide +kernel
theorem d16_9 : decode method_4_code 9 = .ok (.goto 4, 3) := by decide +kernel
theorem d16_12 : decode method_4_code 12 = .ok (.iconst 0, 1) := by decide +kernel
theorem d16_13 : decode method_4_code 13 = .ok (.ireturn, 1) := by decide +kernel
theorem d16_14 : decode method_4_code 14 = .ok (.aload_n 0, 1) := by decide +kernel
theorem d16_15 : decode method_4_code 15 = .ok (.ifnull 16, 3) := by decide +kernel
theorem d16_18 : decode method_4_code 18 = .ok (.aload_n 0, 1) := by decide +kernel
theorem d16_19 : decode method_4_code 19 = .ok (.invokevirtual 62, 3) := by decide +kernel
theorem d16_22 : decode method_4_code 22 = .ok (.lload_n 2, 1) := by decide +kernel
theorem d16_23 : decode method_4_code 23 = .ok (.lcmp, 1) := by decide +kernel
theorem d16_24 : decode method_4_code 24 = .ok (.ifCond .ne 7, 3) := by decide +kernel
theorem d16_27 : decode method_4_code 27 = .ok (.iconst 1, 1) := by decide +kernel
theorem d16_28 : decode method_4_code 28 = .ok (.goto 4, 3) := by decide +kernel
theorem d16_31 : decode method_4_code 31 = .ok (.iconst 0, 1) := by decide +kernel
theorem d16_32 : decode method_4_code 32 = .ok (.ireturn, 1) := by decide +kernel
set_option maxRecDepth 65536 in
set_option maxHeartbeats 40000000 in
theorem bAN {l : Launch} {Z : State} {a0 : Array Value} (hw : HW a0 Z) (x2 : Int64) {n0 : Nat} {h : Heap} (Z0 : n0 ≤ h.size) : OM [] l Z (⟨"com/example/quittance/quittance/AuditEntryWithInvoicePinLaw", "sameAmount", "(Lcom/example/quittance/quittance/Amount;ZJ)Z"⟩ : MethodName) method_4_code 4 (some .boolean) ⟨0, 0, 0, 0⟩ n0 h #[.null, (.int (1 : Int32)), (.long x2)] (fun v h' => v = some (.int (1 : Int32)) ∧ h' = h) 0 0 := by
  refine OM.of_body (own_EL hw) (ls := #[.val .null, .val (.int (1 : Int32)), .val (.long x2), .second]) (plainFor_of_name pn_5) (fun m => by first | (simp [entryFrame, mkF, argsToLocals, Value.category]; done) | rfl) ?_
  intro p e s m below meth c C
  refine OG.ow (OG.iloadN C d16_0 rfl (pc' := 1) rfl) ?_
  refine OG.ow (OG.ifNo C d16_1 ((if0 _ _).trans (feq (by decide : ¬ ((1 : Int32) = (0 : Int32)))).1) (pc' := 4) rfl) ?_
  refine OG.ow (OG.aloadN C d16_4 rfl rfl (pc' := 5) rfl) ?_
  refine OG.ow (OG.ifnonnullNo C d16_5 (pc' := 8) rfl) ?_
  refine OG.ow (OG.iconst C d16_8 (z := (1 : Int32)) rfl (pc' := 9) rfl) ?_
  refine OG.ow (OG.goto C d16_9 (by decide) (pc' := 13) (by decide)) ?_
  refine OW.retN (t := .boolean) C (by simp) d16_13 (by decide) (by decide) ?_
  exact ⟨rfl, rfl⟩
set_option maxRecDepth 65536 in
set_option maxHeartbeats 40000000 in
theorem bAR {l : Launch} {Z : State} {a0 : Array Value} (hw : HW a0 Z) (x0 : Addr) (x2 : Int64) {n0 : Nat} {h : Heap} (Z0 : n0 ≤ h.size) (E0 : Exa Z h x0 "com/example/quittance/quittance/Amount") (F0 : Fld Z h x0 "com/example/quittance/quittance/Amount" "cents" "J" (.long x2)) : OM [] l Z (⟨"com/example/quittance/quittance/AuditEntryWithInvoicePinLaw", "sameAmount", "(Lcom/example/quittance/quittance/Amount;ZJ)Z"⟩ : MethodName) method_4_code 4 (some .boolean) ⟨1, 0, 0, 12⟩ n0 h #[(.ref x0), (.int (0 : Int32)), (.long x2)] (fun v h' => v = some (.int (1 : Int32)) ∧ h' = h) 0 0 := by
  refine OM.of_body (own_EL hw) (ls := #[.val (.ref x0), .val (.int (0 : Int32)), .val (.long x2), .second]) (plainFor_of_name pn_5) (fun m => by first | (simp [entryFrame, mkF, argsToLocals, Value.category]; done) | rfl) ?_
  intro p e s m below meth c C
  refine OG.ow (OG.iloadN C d16_0 rfl (pc' := 1) rfl) ?_
  refine OG.ow (OG.ifYes C d16_1 ((if0 _ _).trans (teq (by decide : (0 : Int32) = (0 : Int32))).1) (by decide) (pc' := 14) (by decide)) ?_
  refine OG.ow (OG.aloadN C d16_14 rfl rfl (pc' := 15) rfl) ?_
  refine OG.ow (OG.ifnullNo C d16_15 (pc' := 18) rfl) ?_
  refine OG.ow (OG.aloadN C d16_18 rfl rfl (pc' := 19) rfl) ?_
  refine OG.ow (OG.callV C (w102 hw) (w103 hw) (w105 hw) (w104 hw) (w35 hw) (w106 hw) (by decide) E0 (b17 hw x0 Z0 F0) allN d16_19 pd_8 rfl (argsL := []) (rest := []) rfl rfl (W := 0) rfl (by decide) (by decide) (pc' := 22) rfl) ?_
  refine OG.ow (OG.lloadN C d16_22 rfl (pc' := 23) rfl) ?_
  refine OG.ow (OG.lcmp C d16_23 (pc' := 24) rfl) ?_
  refine OG.ow (OG.ifNo C d16_24 (teqL rfl).2 (pc' := 27) rfl) ?_
  refine OG.ow (OG.iconst C d16_27 (z := (1 : Int32)) rfl (pc' := 28) rfl) ?_
  refine OG.ow (OG.goto C d16_28 (by decide) (pc' := 32) (by decide)) ?_
  refine OW.retN (t := .boolean) C (by simp) d16_32 (by decide) (by decide) ?_
  exact ⟨rfl, rfl⟩
set_option maxRecDepth 65536 in
set_option maxHeartbeats 40000000 in
theorem b0 {l : Launch} {Z : State} {a0 : Array Value} (hw : HW a0 Z) (x0 : Int32) (x1 : Int32) (x2 : Int32) (x3 : Int64) (x4 : Int32) (x5 : Int32) {n0 : Nat} {h : Heap} (Z0 : n0 ≤ h.size) {cs : Int32} (S_cs : Sta Z h "java/lang/String" "COMPACT_STRINGS" "Z" (.int cs)) (hcs : ¬ cs = (0 : Int32)) {s0 s1 s2 s3 s4 s5 s6 s7 s8 s9 s10 s11 s12 s13 : Addr} (S0 : Sta Z h "com/example/quittance/quittance/AuditEntry$Action" "REASON_CODE_SET" "Lcom/example/quittance/quittance/AuditEntry$Action;" (.ref s0)) (S1 : Sta Z h "com/example/quittance/quittance/AuditEntry$Action" "CUSTOMER_CREATED" "Lcom/example/quittance/quittance/AuditEntry$Action;" (.ref s1)) (S2 : Sta Z h "com/example/quittance/quittance/AuditEntry$Action" "CREDIT_ALLOCATED" "Lcom/example/quittance/quittance/AuditEntry$Action;" (.ref s2)) (S3 : Sta Z h "com/example/quittance/quittance/AuditEntry$Action" "INVOICE_ADJUSTED" "Lcom/example/quittance/quittance/AuditEntry$Action;" (.ref s3)) (S4 : Sta Z h "com/example/quittance/quittance/AuditEntry$Action" "INVOICE_POSTED" "Lcom/example/quittance/quittance/AuditEntry$Action;" (.ref s4)) (S5 : Sta Z h "com/example/quittance/quittance/AuditEntry$Action" "CREDIT_MEMO_POSTED" "Lcom/example/quittance/quittance/AuditEntry$Action;" (.ref s5)) (S6 : Sta Z h "com/example/quittance/quittance/AuditEntry$Action" "CREDIT_NOTE_DRAFTED" "Lcom/example/quittance/quittance/AuditEntry$Action;" (.ref s6)) (S7 : Sta Z h "com/example/quittance/quittance/AuditEntry$Action" "CREDIT_NOTE_VOIDED" "Lcom/example/quittance/quittance/AuditEntry$Action;" (.ref s7)) (S8 : Sta Z h "com/example/quittance/quittance/AuditEntry$Action" "PAYMENT_APPLICATION_REVERSED" "Lcom/example/quittance/quittance/AuditEntry$Action;" (.ref s8)) (S9 : Sta Z h "com/example/quittance/quittance/AuditEntry$Action" "PAYMENT_APPLIED" "Lcom/example/quittance/quittance/AuditEntry$Action;" (.ref s9)) (S10 : Sta Z h "com/example/quittance/quittance/AuditEntry$Action" "CUSTOMER_CREDIT_CREATED" "Lcom/example/quittance/quittance/AuditEntry$Action;" (.ref s10)) (S11 : Sta Z h "com/example/quittance/quittance/AuditEntry$Action" "PAYMENT_RECORDED" "Lcom/example/quittance/quittance/AuditEntry$Action;" (.ref s11)) (S12 : Sta Z h "com/example/quittance/quittance/AuditEntry$Action" "INVOICE_DRAFTED" "Lcom/example/quittance/quittance/AuditEntry$Action;" (.ref s12)) (S13 : Sta Z h "com/example/quittance/quittance/AuditEntry$Action" "CREDIT_REFUNDED" "Lcom/example/quittance/quittance/AuditEntry$Action;" (.ref s13)) : OM [] l Z x code maxLocals ret room_1 n0 h #[(.int x0), (.int x1), (.int x2), (.long x3), (.int x4), (.int x5)] (fun v h' => v = some (.int 1)) 27 59 := by
  refine OM.of_body (own_EL hw) (ls := #[.val (.int x0), .val (.int x1), .val (.int x2), .val (.long x3), .second, .val (.int x4), .val (.int x5), .unset, .unset, .unset, .unset, .unset, .unset, .unset, .unset]) (plainFor_of_name pn_5) (fun m => by first | (simp [entryFrame, mkF, argsToLocals, Value.category, maxLocals]; done) | rfl) ?_
  intro p e s m below meth c C
  refine OG.ow (OG.iloadN C at_0 rfl (pc' := 1) rfl) ?_
  refine OG.ow (OG.callS C (w0 hw) (w1 hw) (w2 hw) (w3 hw) (by decide) (b1 hw x0 S0 S1 S2 S3 S4 S5 S6 S7 S8 S9 S10 S11 S12 S13) allN at_1 pd_9 rfl (argsL := [(.int x0)]) (rest := []) rfl rfl (W := 0) rfl (by decide) (by decide) (pc' := 4) rfl) ?_
  refine OG.ow (OG.astore C at_4 rfl (ls' := #[.val (.int x0), .val (.int x1), .val (.int x2), .val (.long x3), .second, .val (.int x4), .val (.int x5), .val (.ref (F1 x0 s0 s1 s2 s3 s4 s5 s6 s7 s8 s9 s10 s11 s12 s13)), .unset, .unset, .unset, .unset, .unset, .unset, .unset]) rfl (pc' := 6) rfl) ?_
  refine OG.ow (OG.iloadN C at_6 rfl (pc' := 7) rfl) ?_
  refine OG.ow (OG.iload C at_7 rfl (pc' := 9) rfl) ?_
  refine OG.ow (OG.iconst C at_9 (z := (1 : Int32)) rfl (pc' := 10) rfl) ?_
  refine OG.ow (OG.iand C at_10 (pc' := 11) rfl) ?_
  refine OG.ow (OG.ite (α := Int32) (P := (x5 &&& (1 : Int32)) = (0 : Int32)) (f := fun v => (mkF m 19 #[.val (.int x0), .val (.int x1), .val (.int x2), .val (.long x3), .second, .val (.int x4), .val (.int x5), .val (.ref (F1 x0 s0 s1 s2 s3 s4 s5 s6 s7 s8 s9 s10 s11 s12 s13)), .unset, .unset, .unset, .unset, .unset, .unset, .unset] [(.int v), (.int x1)])) (x := (0 : Int32)) (y := (1 : Int32)) (fun hc => ?_) (fun hc => ?_)) ?_
  · refine OG.trans (OG.ifYes C at_11 ((if0 _ _).trans (teq hc).1) (by decide) (pc' := 18) (by decide)) ?_
    refine OG.trans (OG.iconst C at_18 (z := (0 : Int32)) rfl (pc' := 19) rfl) ?_
    exact OG.refl
  · refine OG.trans (OG.ifNo C at_11 ((if0 _ _).trans (feq hc).1) (pc' := 14) rfl) ?_
    refine OG.trans (OG.iconst C at_14 (z := (1 : Int32)) rfl (pc' := 15) rfl) ?_
    refine OG.trans (OG.goto C at_15 (by decide) (pc' := 19) (by decide)) ?_
    exact OG.refl
  refine OW.callS C (w8 hw) (w9 hw) (w2 hw) (w10 hw) (by decide) (b2 hw x1 (if (x5 &&& (1 : Int32)) = (0 : Int32) then (0 : Int32) else (1 : Int32)) Z0 S_cs hcs) allN at_19 pd_10 rfl (argsL := [(.int x1), (.int (if (x5 &&& (1 : Int32)) = (0 : Int32) then (0 : Int32) else (1 : Int32)))]) (rest := []) rfl rfl (W := 0) rfl (by decide) (by decide) (by decide) (by decide) (pc' := 22) rfl ?_
  intro vh1 h1 qh1
  obtain ⟨u2, rfl, ru2, Kh1, Xu2⟩ := qh1
  refine OG.ow (OG.astore C at_22 ru2 (ls' := #[.val (.int x0), .val (.int x1), .val (.int x2), .val (.long x3), .second, .val (.int x4), .val (.int x5), .val (.ref (F1 x0 s0 s1 s2 s3 s4 s5 s6 s7 s8 s9 s10 s11 s12 s13)), .val u2, .unset, .unset, .unset, .unset, .unset, .unset]) (by rcases ref_cases ru2 with rfl | ⟨_, rfl⟩ <;> rfl) (pc' := 24) rfl) ?_
  refine OG.ow (OG.iloadN C at_24 rfl (pc' := 25) rfl) ?_
  refine OG.ow (OG.iload C at_25 rfl (pc' := 27) rfl) ?_
  refine OG.ow (OG.iconst C at_27 (z := (2 : Int32)) rfl (pc' := 28) rfl) ?_
  refine OG.ow (OG.iand C at_28 (pc' := 29) rfl) ?_
  refine OG.ow (OG.ite (α := Int32) (P := (x5 &&& (2 : Int32)) = (0 : Int32)) (f := fun v => (mkF m 37 #[.val (.int x0), .val (.int x1), .val (.int x2), .val (.long x3), .second, .val (.int x4), .val (.int x5), .val (.ref (F1 x0 s0 s1 s2 s3 s4 s5 s6 s7 s8 s9 s10 s11 s12 s13)), .val u2, .unset, .unset, .unset, .unset, .unset, .unset] [(.int v), (.int x2)])) (x := (0 : Int32)) (y := (1 : Int32)) (fun hc => ?_) (fun hc => ?_)) ?_
  · refine OG.trans (OG.ifYes C at_29 ((if0 _ _).trans (teq hc).1) (by decide) (pc' := 36) (by decide)) ?_
    refine OG.trans (OG.iconst C at_36 (z := (0 : Int32)) rfl (pc' := 37) rfl) ?_
    exact OG.refl
  · refine OG.trans (OG.ifNo C at_29 ((if0 _ _).trans (feq hc).1) (pc' := 32) rfl) ?_
    refine OG.trans (OG.iconst C at_32 (z := (1 : Int32)) rfl (pc' := 33) rfl) ?_
    refine OG.trans (OG.goto C at_33 (by decide) (pc' := 37) (by decide)) ?_
    exact OG.refl
  have G3 := (Sta.kp S_cs Kh1 all0)
  refine OW.callS C (w8 hw) (w9 hw) (w2 hw) (w10 hw) (by decide) (b2 hw x2 (if (x5 &&& (2 : Int32)) = (0 : Int32) then (0 : Int32) else (1 : Int32)) (Nat.le_trans Z0 Kh1.1) G3 hcs) allN at_37 pd_10 rfl (argsL := [(.int x2), (.int (if (x5 &&& (2 : Int32)) = (0 : Int32) then (0 : Int32) else (1 : Int32)))]) (rest := []) rfl rfl (W := 0) rfl (by decide) (by decide) (by decide) (by decide) (pc' := 40) rfl ?_
  intro vh4 h4 qh4
  obtain ⟨u5, rfl, ru5, Kh4, Xu5⟩ := qh4
  refine OG.ow (OG.astore C at_40 ru5 (ls' := #[.val (.int x0), .val (.int x1), .val (.int x2), .val (.long x3), .second, .val (.int x4), .val (.int x5), .val (.ref (F1 x0 s0 s1 s2 s3 s4 s5 s6 s7 s8 s9 s10 s11 s12 s13)), .val u2, .val u5, .unset, .unset, .unset, .unset, .unset]) (by rcases ref_cases ru5 with rfl | ⟨_, rfl⟩ <;> rcases ref_cases ru2 with rfl | ⟨_, rfl⟩ <;> rfl) (pc' := 42) rfl) ?_
  refine OG.ow (OG.iload C at_42 rfl (pc' := 44) rfl) ?_
  refine OG.ow (OG.iconst C at_44 (z := (4 : Int32)) rfl (pc' := 45) rfl) ?_
  refine OG.ow (OG.iand C at_45 (pc' := 46) rfl) ?_
  by_cases hc6 : (x5 &&& (4 : Int32)) = (0 : Int32)
  · refine OG.ow (OG.ifYes C at_46 ((if0 _ _).trans (teq hc6).1) (by decide) (pc' := 53) (by decide)) ?_
    refine OW.newO C (w33 hw) (w34 hw) (w35 hw) at_53 (by decide) (by decide) (pc' := 56) rfl ?_
    intro a7 h8 ga7 Eh8 Aa7 Da7
    refine OG.ow (OG.dup C at_56 rfl (pc' := 57) rfl) ?_
    refine OG.ow (OG.lloadN C at_57 rfl (pc' := 58) rfl) ?_
    refine OW.init C (w36 hw) (w37 hw) (w35 hw) (w38 hw) rfl (by decide) (b6 hw a7 x3 (Nat.le_trans (Nat.le_trans (Nat.le_trans Z0 Kh1.1) Kh4.1) Eh8.1) (Nat.le_trans (Nat.le_trans (Nat.le_trans Z0 Kh1.1) Kh4.1) (Nat.le_of_eq ga7)) Aa7 (show Fld Z h8 a7 "com/example/quittance/quittance/Amount" "cents" "J" (.long (0 : Int64)) from Da7 (Or.inr (w46 hw)) (ty := .long) (by decide))) allN at_58 pd_11 rfl (argsL := [(.long x3)]) (rest := [(.ref a7)]) rfl rfl (W := 1) rfl (by decide) (by decide) (by decide) (by decide) (pc' := 61) rfl ?_
    intro vh9 h9 qh9
    obtain ⟨rfl, Kh9, Fh9⟩ := qh9
    refine OG.ow (OG.astore C at_61 rfl (ls' := #[.val (.int x0), .val (.int x1), .val (.int x2), .val (.long x3), .second, .val (.int x4), .val (.int x5), .val (.ref (F1 x0 s0 s1 s2 s3 s4 s5 s6 s7 s8 s9 s10 s11 s12 s13)), .val u2, .val u5, .val (.ref a7), .unset, .unset, .unset, .unset]) (by rcases ref_cases ru5 with rfl | ⟨_, rfl⟩ <;> rfl) (pc' := 63) rfl) ?_
    refine OG.ow (OG.iload C at_63 rfl (pc' := 65) rfl) ?_
    refine OG.ow (OG.bipush C at_65 (z := (8 : Int32)) (by decide) (pc' := 67) rfl) ?_
    refine OG.ow (OG.iushr C at_67 (pc' := 68) rfl) ?_
    refine OG.ow (OG.iload C at_68 rfl (pc' := 70) rfl) ?_
    refine OG.ow (OG.bipush C at_70 (z := (8 : Int32)) (by decide) (pc' := 72) rfl) ?_
    refine OG.ow (OG.iand C at_72 (pc' := 73) rfl) ?_
    refine OG.ow (OG.ite (α := Int32) (P := (x5 &&& (8 : Int32)) = (0 : Int32)) (f := fun v => (mkF m 81 #[.val (.int x0), .val (.int x1), .val (.int x2), .val (.long x3), .second, .val (.int x4), .val (.int x5), .val (.ref (F1 x0 s0 s1 s2 s3 s4 s5 s6 s7 s8 s9 s10 s11 s12 s13)), .val u2, .val u5, .val (.ref a7), .unset, .unset, .unset, .unset] [(.int v), (.int (x5.toUInt32 >>> ((8 : Int32) &&& 31).toUInt32).toInt32)])) (x := (0 : Int32)) (y := (1 : Int32)) (fun hc => ?_) (fun hc => ?_)) ?_
    · refine OG.trans (OG.ifYes C at_73 ((if0 _ _).trans (teq hc).1) (by decide) (pc' := 80) (by decide)) ?_
      refine OG.trans (OG.iconst C at_80 (z := (0 : Int32)) rfl (pc' := 81) rfl) ?_
      exact OG.refl
    · refine OG.trans (OG.ifNo C at_73 ((if0 _ _).trans (feq hc).1) (pc' := 76) rfl) ?_
      refine OG.trans (OG.iconst C at_76 (z := (1 : Int32)) rfl (pc' := 77) rfl) ?_
      refine OG.trans (OG.goto C at_77 (by decide) (pc' := 81) (by decide)) ?_
      exact OG.refl
    have G10 := (Sta.kp (Sta.ext Eh8 (Sta.kp G3 Kh4 all0)) Kh9 (allS (Aa7).pl all0))
    refine OW.callS C (w8 hw) (w9 hw) (w2 hw) (w10 hw) (by decide) (b2 hw (x5.toUInt32 >>> ((8 : Int32) &&& 31).toUInt32).toInt32 (if (x5 &&& (8 : Int32)) = (0 : Int32) then (0 : Int32) else (1 : Int32)) (Nat.le_trans (Nat.le_trans (Nat.le_trans (Nat.le_trans Z0 Kh1.1) Kh4.1) Eh8.1) Kh9.1) G10 hcs) allN at_81 pd_10 rfl (argsL := [(.int (x5.toUInt32 >>> ((8 : Int32) &&& 31).toUInt32).toInt32), (.int (if (x5 &&& (8 : Int32)) = (0 : Int32) then (0 : Int32) else (1 : Int32)))]) (rest := []) rfl rfl (W := 0) rfl (by decide) (by decide) (by decide) (by decide) (pc' := 84) rfl ?_
    intro vh11 h11 qh11
    obtain ⟨u12, rfl, ru12, Kh11, Xu12⟩ := qh11
    refine OG.ow (OG.astore C at_84 ru12 (ls' := #[.val (.int x0), .val (.int x1), .val (.int x2), .val (.long x3), .second, .val (.int x4), .val (.int x5), .val (.ref (F1 x0 s0 s1 s2 s3 s4 s5 s6 s7 s8 s9 s10 s11 s12 s13)), .val u2, .val u5, .val (.ref a7), .val u12, .unset, .unset, .unset]) (by rcases ref_cases ru12 with rfl | ⟨_, rfl⟩ <;> rfl) (pc' := 86) rfl) ?_
    refine OG.ow (OG.iload C at_86 rfl (pc' := 88) rfl) ?_
    refine OG.ow (OG.iload C at_88 rfl (pc' := 90) rfl) ?_
    refine OG.ow (OG.bipush C at_90 (z := (16 : Int32)) (by decide) (pc' := 92) rfl) ?_
    refine OG.ow (OG.iand C at_92 (pc' := 93) rfl) ?_
    refine OG.ow (OG.ite (α := Int32) (P := (x5 &&& (16 : Int32)) = (0 : Int32)) (f := fun v => (mkF m 101 #[.val (.int x0), .val (.int x1), .val (.int x2), .val (.long x3), .second, .val (.int x4), .val (.int x5), .val (.ref (F1 x0 s0 s1 s2 s3 s4 s5 s6 s7 s8 s9 s10 s11 s12 s13)), .val u2, .val u5, .val (.ref a7), .val u12, .unset, .unset, .unset] [(.int v), (.int x4)])) (x := (0 : Int32)) (y := (1 : Int32)) (fun hc => ?_) (fun hc => ?_)) ?_
    · refine OG.trans (OG.ifYes C at_93 ((if0 _ _).trans (teq hc).1) (by decide) (pc' := 100) (by decide)) ?_
      refine OG.trans (OG.iconst C at_100 (z := (0 : Int32)) rfl (pc' := 101) rfl) ?_
      exact OG.refl
    · refine OG.trans (OG.ifNo C at_93 ((if0 _ _).trans (feq hc).1) (pc' := 96) rfl) ?_
      refine OG.trans (OG.iconst C at_96 (z := (1 : Int32)) rfl (pc' := 97) rfl) ?_
      refine OG.trans (OG.goto C at_97 (by decide) (pc' := 101) (by decide)) ?_
      exact OG.refl
    have G13 := (Sta.kp G10 Kh11 all0)
    refine OW.callS C (w8 hw) (w9 hw) (w2 hw) (w10 hw) (by decide) (b2 hw x4 (if (x5 &&& (16 : Int32)) = (0 : Int32) then (0 : Int32) else (1 : Int32)) (Nat.le_trans (Nat.le_trans (Nat.le_trans (Nat.le_trans (Nat.le_trans Z0 Kh1.1) Kh4.1) Eh8.1) Kh9.1) Kh11.1) G13 hcs) allN at_101 pd_10 rfl (argsL := [(.int x4), (.int (if (x5 &&& (16 : Int32)) = (0 : Int32) then (0 : Int32) else (1 : Int32)))]) (rest := []) rfl rfl (W := 0) rfl (by decide) (by decide) (by decide) (by decide) (pc' := 104) rfl ?_
    intro vh14 h14 qh14
    obtain ⟨u15, rfl, ru15, Kh14, Xu15⟩ := qh14
    refine OG.ow (OG.astore C at_104 ru15 (ls' := #[.val (.int x0), .val (.int x1), .val (.int x2), .val (.long x3), .second, .val (.int x4), .val (.int x5), .val (.ref (F1 x0 s0 s1 s2 s3 s4 s5 s6 s7 s8 s9 s10 s11 s12 s13)), .val u2, .val u5, .val (.ref a7), .val u12, .val u15, .unset, .unset]) (by rcases ref_cases ru15 with rfl | ⟨_, rfl⟩ <;> rcases ref_cases ru12 with rfl | ⟨_, rfl⟩ <;> rfl) (pc' := 106) rfl) ?_
    refine OW.newO C (w47 hw) (w48 hw) (w49 hw) at_106 (by decide) (by decide) (pc' := 109) rfl ?_
    intro a16 h17 ga16 Eh17 Aa16 Da16
    refine OG.ow (OG.dup C at_109 rfl (pc' := 110) rfl) ?_
    refine OG.ow (OG.aload C at_110 rfl rfl (pc' := 112) rfl) ?_
    refine OG.ow (OG.aload C at_112 rfl ru2 (pc' := 114) rfl) ?_
    refine OG.ow (OG.aload C at_114 rfl ru5 (pc' := 116) rfl) ?_
    refine OG.ow (OG.aload C at_116 rfl rfl (pc' := 118) rfl) ?_
    refine OG.ow (OG.aload C at_118 rfl ru12 (pc' := 120) rfl) ?_
    refine OW.init C (w50 hw) (w51 hw) (w49 hw) (w52 hw) rfl (by decide) (b8 hw a16 (.ref (F1 x0 s0 s1 s2 s3 s4 s5 s6 s7 s8 s9 s10 s11 s12 s13)) rfl u2 ru2 u5 ru5 (.ref a7) rfl u12 ru12 (Nat.le_trans (Nat.le_trans (Nat.le_trans (Nat.le_trans (Nat.le_trans (Nat.le_trans (Nat.le_trans Z0 Kh1.1) Kh4.1) Eh8.1) Kh9.1) Kh11.1) Kh14.1) Eh17.1) (Nat.le_trans (Nat.le_trans (Nat.le_trans (Nat.le_trans (Nat.le_trans (Nat.le_trans (Nat.le_trans Z0 Kh1.1) Kh4.1) Eh8.1) Kh9.1) Kh11.1) Kh14.1) (Nat.le_of_eq ga16)) Aa16 (show Fld Z h17 a16 "com/example/quittance/quittance/AuditEntry" "action" "Lcom/example/quittance/quittance/AuditEntry$Action;" .null from Da16 (Or.inr (w55 hw)) (ty := (.object "com/example/quittance/quittance/AuditEntry$Action")) (by decide)) (show Fld Z h17 a16 "com/example/quittance/quittance/AuditEntry" "document" "Ljava/lang/String;" .null from Da16 (Or.inr (w57 hw)) (ty := (.object "java/lang/String")) (by decide)) (show Fld Z h17 a16 "com/example/quittance/quittance/AuditEntry" "invoice" "Ljava/lang/String;" .null from Da16 (Or.inr (w59 hw)) (ty := (.object "java/lang/String")) (by decide)) (show Fld Z h17 a16 "com/example/quittance/quittance/AuditEntry" "amount" "Lcom/example/quittance/quittance/Amount;" .null from Da16 (Or.inr (w61 hw)) (ty := (.object "com/example/quittance/quittance/Amount")) (by decide)) (show Fld Z h17 a16 "com/example/quittance/quittance/AuditEntry" "reasonCode" "Ljava/lang/String;" .null from Da16 (Or.inr (w63 hw)) (ty := (.object "java/lang/String")) (by decide))) allN at_120 pd_5 rfl (argsL := [(.ref (F1 x0 s0 s1 s2 s3 s4 s5 s6 s7 s8 s9 s10 s11 s12 s13)), u2, u5, (.ref a7), u12]) (rest := [(.ref a16)]) rfl rfl (W := 1) rfl (by decide) (by decide) (by decide) (by decide) (pc' := 123) rfl ?_
    intro vh18 h18 qh18
    obtain ⟨rfl, Kh18, Fh18_0, Fh18_1, Fh18_2, Fh18_3, Fh18_4⟩ := qh18
    refine OG.ow (OG.astore C at_123 rfl (ls' := #[.val (.int x0), .val (.int x1), .val (.int x2), .val (.long x3), .second, .val (.int x4), .val (.int x5), .val (.ref (F1 x0 s0 s1 s2 s3 s4 s5 s6 s7 s8 s9 s10 s11 s12 s13)), .val u2, .val u5, .val (.ref a7), .val u12, .val u15, .val (.ref a16), .unset]) (by rcases ref_cases ru15 with rfl | ⟨_, rfl⟩ <;> rfl) (pc' := 125) rfl) ?_
    refine OG.ow (OG.aload C at_125 rfl rfl (pc' := 127) rfl) ?_
    refine OG.ow (OG.aload C at_127 rfl ru15 (pc' := 129) rfl) ?_
    have G19 := (Aa16.keep Kh18)
    refine OW.callV C (w64 hw) (w65 hw) (w67 hw) (w66 hw) (w49 hw) (w68 hw) (by decide) G19 (b9 hw a16 u15 ru15 rfl ru2 ru5 rfl ru12 (Nat.le_trans (Nat.le_trans (Nat.le_trans (Nat.le_trans (Nat.le_trans (Nat.le_trans (Nat.le_trans (Nat.le_trans Z0 Kh1.1) Kh4.1) Eh8.1) Kh9.1) Kh11.1) Kh14.1) Eh17.1) Kh18.1) Fh18_0 Fh18_1 Fh18_2 Fh18_3 Fh18_4) allN at_129 pd_12 rfl (argsL := [u15]) (rest := []) rfl rfl (W := 0) rfl (by decide) (by decide) (by decide) (by decide) (pc' := 132) rfl ?_
    intro vh20 h20 qh20
    obtain ⟨a21, rfl, ga21, Kh20, Ea21, Fh20_0, Fh20_1, Fh20_2, Fh20_3, Fh20_4⟩ := qh20
    refine OG.ow (OG.astore C at_132 rfl (ls' := #[.val (.int x0), .val (.int x1), .val (.int x2), .val (.long x3), .second, .val (.int x4), .val (.int x5), .val (.ref (F1 x0 s0 s1 s2 s3 s4 s5 s6 s7 s8 s9 s10 s11 s12 s13)), .val u2, .val u5, .val (.ref a7), .val u12, .val u15, .val (.ref a16), .val (.ref a21)]) rfl (pc' := 134) rfl) ?_
    refine OG.ow (OG.aload C at_134 rfl rfl (pc' := 136) rfl) ?_
    refine OG.ow (OG.ifnonnullYes C at_136 (by decide) (pc' := 141) (by decide)) ?_
    refine OG.ow (OG.aload C at_141 rfl rfl (pc' := 143) rfl) ?_
    refine OG.ow (OG.callV C (w71 hw) (w72 hw) (w74 hw) (w73 hw) (w49 hw) (w75 hw) (by decide) Ea21 (b10 hw a21 rfl (Nat.le_trans (Nat.le_trans (Nat.le_trans (Nat.le_trans (Nat.le_trans (Nat.le_trans (Nat.le_trans (Nat.le_trans (Nat.le_trans Z0 Kh1.1) Kh4.1) Eh8.1) Kh9.1) Kh11.1) Kh14.1) Eh17.1) Kh18.1) Kh20.1) Fh20_0) allN at_143 pd_13 rfl (argsL := []) (rest := []) rfl rfl (W := 0) rfl (by decide) (by decide) (pc' := 146) rfl) ?_
    refine OG.ow (OG.aload C at_146 rfl rfl (pc' := 148) rfl) ?_
    refine OG.ow (OG.acmp C at_148 rfl rfl (same := true) (decide_eq_true rfl) (by decide) (pc' := 151) (by decide)) ?_
    refine OG.ow (OG.aload C at_151 rfl rfl (pc' := 153) rfl) ?_
    refine OG.ow (OG.callV C (w76 hw) (w77 hw) (w79 hw) (w78 hw) (w49 hw) (w80 hw) (by decide) Ea21 (b11 hw a21 ru2 (Nat.le_trans (Nat.le_trans (Nat.le_trans (Nat.le_trans (Nat.le_trans (Nat.le_trans (Nat.le_trans (Nat.le_trans (Nat.le_trans Z0 Kh1.1) Kh4.1) Eh8.1) Kh9.1) Kh11.1) Kh14.1) Eh17.1) Kh18.1) Kh20.1) Fh20_1) allN at_153 pd_14 rfl (argsL := []) (rest := []) rfl rfl (W := 0) rfl (by decide) (by decide) (pc' := 156) rfl) ?_
    refine OG.ow (OG.aload C at_156 rfl ru2 (pc' := 158) rfl) ?_
    have G22 := (((SS.ext Eh17 ((((SS.ext Eh8 (Xu2.keep Kh4)).keep Kh9).keep Kh11).keep Kh14)).keep Kh18).keep Kh20)
    refine OG.ow (OG.callS C (w81 hw) (w82 hw) (w2 hw) (w83 hw) (by decide) (bS hw u2 ru2 (Nat.le_trans (Nat.le_trans (Nat.le_trans (Nat.le_trans (Nat.le_trans (Nat.le_trans (Nat.le_trans (Nat.le_trans (Nat.le_trans Z0 Kh1.1) Kh4.1) Eh8.1) Kh9.1) Kh11.1) Kh14.1) Eh17.1) Kh18.1) Kh20.1) G22) allN at_158 pd_15 rfl (argsL := [u2, u2]) (rest := []) rfl rfl (W := 0) rfl (by decide) (by decide) (pc' := 161) rfl) ?_
    refine OG.ow (OG.ifNo C at_161 ((if0 _ _).trans (feq (by decide : ¬ ((1 : Int32) = (0 : Int32)))).1) (pc' := 164) rfl) ?_
    refine OG.ow (OG.aload C at_164 rfl rfl (pc' := 166) rfl) ?_
    refine OG.ow (OG.callV C (w89 hw) (w90 hw) (w92 hw) (w91 hw) (w49 hw) (w93 hw) (by decide) Ea21 (b14 hw a21 ru15 (Nat.le_trans (Nat.le_trans (Nat.le_trans (Nat.le_trans (Nat.le_trans (Nat.le_trans (Nat.le_trans (Nat.le_trans (Nat.le_trans Z0 Kh1.1) Kh4.1) Eh8.1) Kh9.1) Kh11.1) Kh14.1) Eh17.1) Kh18.1) Kh20.1) Fh20_2) allN at_166 pd_14 rfl (argsL := []) (rest := []) rfl rfl (W := 0) rfl (by decide) (by decide) (pc' := 169) rfl) ?_
    refine OG.ow (OG.aload C at_169 rfl ru15 (pc' := 171) rfl) ?_
    have G23 := (((SS.ext Eh17 Xu15).keep Kh18).keep Kh20)
    refine OG.ow (OG.callS C (w81 hw) (w82 hw) (w2 hw) (w83 hw) (by decide) (bS hw u15 ru15 (Nat.le_trans (Nat.le_trans (Nat.le_trans (Nat.le_trans (Nat.le_trans (Nat.le_trans (Nat.le_trans (Nat.le_trans (Nat.le_trans Z0 Kh1.1) Kh4.1) Eh8.1) Kh9.1) Kh11.1) Kh14.1) Eh17.1) Kh18.1) Kh20.1) G23) allN at_171 pd_15 rfl (argsL := [u15, u15]) (rest := []) rfl rfl (W := 0) rfl (by decide) (by decide) (pc' := 174) rfl) ?_
    refine OG.ow (OG.ifNo C at_174 ((if0 _ _).trans (feq (by decide : ¬ ((1 : Int32) = (0 : Int32)))).1) (pc' := 177) rfl) ?_
    refine OG.ow (OG.aload C at_177 rfl rfl (pc' := 179) rfl) ?_
    refine OG.ow (OG.callV C (w94 hw) (w95 hw) (w97 hw) (w96 hw) (w49 hw) (w98 hw) (by decide) Ea21 (b15 hw a21 rfl (Nat.le_trans (Nat.le_trans (Nat.le_trans (Nat.le_trans (Nat.le_trans (Nat.le_trans (Nat.le_trans (Nat.le_trans (Nat.le_trans Z0 Kh1.1) Kh4.1) Eh8.1) Kh9.1) Kh11.1) Kh14.1) Eh17.1) Kh18.1) Kh20.1) Fh20_3) allN at_179 pd_16 rfl (argsL := []) (rest := []) rfl rfl (W := 0) rfl (by decide) (by decide) (pc' := 182) rfl) ?_
    refine OG.ow (OG.aload C at_182 rfl rfl (pc' := 184) rfl) ?_
    refine OG.ow (OG.ifnonnullYes C at_184 (by decide) (pc' := 191) (by decide)) ?_
    refine OG.ow (OG.iconst C at_191 (z := (0 : Int32)) rfl (pc' := 192) rfl) ?_
    refine OG.ow (OG.lloadN C at_192 rfl (pc' := 193) rfl) ?_
    have G24 := (((Exa.ext Eh17 (((Aa7.keep Kh9).keep Kh11).keep Kh14)).keep Kh18).keep Kh20)
    have G25 := (((Fld.ext Eh17 ((Fh9.keep Kh11 nin0).keep Kh14 nin0)).keep Kh18 (ninS (Nat.ne_of_lt (Nat.lt_of_lt_of_le (Nat.lt_of_lt_of_le (Aa7).lt (Nat.le_trans (Nat.le_trans (Nat.le_trans (Nat.le_refl _) Kh9.1) Kh11.1) Kh14.1)) (Nat.le_of_eq ga16))) nin0)).keep Kh20 nin0)
    refine OG.ow (OG.callS C (w99 hw) (w100 hw) (w2 hw) (w101 hw) (by decide) (bAR hw a7 x3 (Nat.le_trans (Nat.le_trans (Nat.le_trans (Nat.le_trans (Nat.le_trans (Nat.le_trans (Nat.le_trans (Nat.le_trans (Nat.le_trans Z0 Kh1.1) Kh4.1) Eh8.1) Kh9.1) Kh11.1) Kh14.1) Eh17.1) Kh18.1) Kh20.1) G24 G25) allN at_193 pd_17 rfl (argsL := [(.ref a7), (.int (0 : Int32)), (.long x3)]) (rest := []) rfl rfl (W := 0) rfl (by decide) (by decide) (pc' := 196) rfl) ?_
    refine OG.ow (OG.ifNo C at_196 ((if0 _ _).trans (feq (by decide : ¬ ((1 : Int32) = (0 : Int32)))).1) (pc' := 199) rfl) ?_
    refine OG.ow (OG.aload C at_199 rfl rfl (pc' := 201) rfl) ?_
    refine OG.ow (OG.callV C (w107 hw) (w108 hw) (w110 hw) (w109 hw) (w49 hw) (w111 hw) (by decide) Ea21 (b18 hw a21 ru12 (Nat.le_trans (Nat.le_trans (Nat.le_trans (Nat.le_trans (Nat.le_trans (Nat.le_trans (Nat.le_trans (Nat.le_trans (Nat.le_trans Z0 Kh1.1) Kh4.1) Eh8.1) Kh9.1) Kh11.1) Kh14.1) Eh17.1) Kh18.1) Kh20.1) Fh20_4) allN at_201 pd_14 rfl (argsL := []) (rest := []) rfl rfl (W := 0) rfl (by decide) (by decide) (pc' := 204) rfl) ?_
    refine OG.ow (OG.aload C at_204 rfl ru12 (pc' := 206) rfl) ?_
    have G26 := (((SS.ext Eh17 (Xu12.keep Kh14)).keep Kh18).keep Kh20)
    refine OG.ow (OG.callS C (w81 hw) (w82 hw) (w2 hw) (w83 hw) (by decide) (bS hw u12 ru12 (Nat.le_trans (Nat.le_trans (Nat.le_trans (Nat.le_trans (Nat.le_trans (Nat.le_trans (Nat.le_trans (Nat.le_trans (Nat.le_trans Z0 Kh1.1) Kh4.1) Eh8.1) Kh9.1) Kh11.1) Kh14.1) Eh17.1) Kh18.1) Kh20.1) G26) allN at_206 pd_15 rfl (argsL := [u12, u12]) (rest := []) rfl rfl (W := 0) rfl (by decide) (by decide) (pc' := 209) rfl) ?_
    refine OG.ow (OG.ifNo C at_209 ((if0 _ _).trans (feq (by decide : ¬ ((1 : Int32) = (0 : Int32)))).1) (pc' := 212) rfl) ?_
    refine OG.ow (OG.aload C at_212 rfl rfl (pc' := 214) rfl) ?_
    have G27 := (Fh18_2.keep Kh20 nin0)
    have G28 := (G19.keep Kh20)
    refine OG.ow (OG.callV C (w89 hw) (w90 hw) (w92 hw) (w91 hw) (w49 hw) (w93 hw) (by decide) G28 (b14 hw a16 ru5 (Nat.le_trans (Nat.le_trans (Nat.le_trans (Nat.le_trans (Nat.le_trans (Nat.le_trans (Nat.le_trans (Nat.le_trans (Nat.le_trans Z0 Kh1.1) Kh4.1) Eh8.1) Kh9.1) Kh11.1) Kh14.1) Eh17.1) Kh18.1) Kh20.1) G27) allN at_214 pd_14 rfl (argsL := []) (rest := []) rfl rfl (W := 0) rfl (by decide) (by decide) (pc' := 217) rfl) ?_
    refine OG.ow (OG.aload C at_217 rfl ru5 (pc' := 219) rfl) ?_
    have G29 := (((SS.ext Eh17 ((((SS.ext Eh8 Xu5).keep Kh9).keep Kh11).keep Kh14)).keep Kh18).keep Kh20)
    refine OG.ow (OG.callS C (w81 hw) (w82 hw) (w2 hw) (w83 hw) (by decide) (bS hw u5 ru5 (Nat.le_trans (Nat.le_trans (Nat.le_trans (Nat.le_trans (Nat.le_trans (Nat.le_trans (Nat.le_trans (Nat.le_trans (Nat.le_trans Z0 Kh1.1) Kh4.1) Eh8.1) Kh9.1) Kh11.1) Kh14.1) Eh17.1) Kh18.1) Kh20.1) G29) allN at_219 pd_15 rfl (argsL := [u5, u5]) (rest := []) rfl rfl (W := 0) rfl (by decide) (by decide) (pc' := 222) rfl) ?_
    refine OG.ow (OG.ifNo C at_222 ((if0 _ _).trans (feq (by decide : ¬ ((1 : Int32) = (0 : Int32)))).1) (pc' := 225) rfl) ?_
    refine OG.ow (OG.iconst C at_225 (z := (1 : Int32)) rfl (pc' := 226) rfl) ?_
    refine OG.ow (OG.goto C at_226 (by decide) (pc' := 230) (by decide)) ?_
    refine OW.retN (t := .boolean) C (by simp) at_230 (by decide) (by decide) ?_
    rfl
  · refine OG.ow (OG.ifNo C at_46 ((if0 _ _).trans (feq hc6).1) (pc' := 49) rfl) ?_
    refine OG.ow (OG.aconst_null C at_49 (pc' := 50) rfl) ?_
    refine OG.ow (OG.goto C at_50 (by decide) (pc' := 61) (by decide)) ?_
    refine OG.ow (OG.astore C at_61 rfl (ls' := #[.val (.int x0), .val (.int x1), .val (.int x2), .val (.long x3), .second, .val (.int x4), .val (.int x5), .val (.ref (F1 x0 s0 s1 s2 s3 s4 s5 s6 s7 s8 s9 s10 s11 s12 s13)), .val u2, .val u5, .val .null, .unset, .unset, .unset, .unset]) (by rcases ref_cases ru5 with rfl | ⟨_, rfl⟩ <;> rfl) (pc' := 63) rfl) ?_
    refine OG.ow (OG.iload C at_63 rfl (pc' := 65) rfl) ?_
    refine OG.ow (OG.bipush C at_65 (z := (8 : Int32)) (by decide) (pc' := 67) rfl) ?_
    refine OG.ow (OG.iushr C at_67 (pc' := 68) rfl) ?_
    refine OG.ow (OG.iload C at_68 rfl (pc' := 70) rfl) ?_
    refine OG.ow (OG.bipush C at_70 (z := (8 : Int32)) (by decide) (pc' := 72) rfl) ?_
    refine OG.ow (OG.iand C at_72 (pc' := 73) rfl) ?_
    refine OG.ow (OG.ite (α := Int32) (P := (x5 &&& (8 : Int32)) = (0 : Int32)) (f := fun v => (mkF m 81 #[.val (.int x0), .val (.int x1), .val (.int x2), .val (.long x3), .second, .val (.int x4), .val (.int x5), .val (.ref (F1 x0 s0 s1 s2 s3 s4 s5 s6 s7 s8 s9 s10 s11 s12 s13)), .val u2, .val u5, .val .null, .unset, .unset, .unset, .unset] [(.int v), (.int (x5.toUInt32 >>> ((8 : Int32) &&& 31).toUInt32).toInt32)])) (x := (0 : Int32)) (y := (1 : Int32)) (fun hc => ?_) (fun hc => ?_)) ?_
    · refine OG.trans (OG.ifYes C at_73 ((if0 _ _).trans (teq hc).1) (by decide) (pc' := 80) (by decide)) ?_
      refine OG.trans (OG.iconst C at_80 (z := (0 : Int32)) rfl (pc' := 81) rfl) ?_
      exact OG.refl
    · refine OG.trans (OG.ifNo C at_73 ((if0 _ _).trans (feq hc).1) (pc' := 76) rfl) ?_
      refine OG.trans (OG.iconst C at_76 (z := (1 : Int32)) rfl (pc' := 77) rfl) ?_
      refine OG.trans (OG.goto C at_77 (by decide) (pc' := 81) (by decide)) ?_
      exact OG.refl
    have G30 := (Sta.kp G3 Kh4 all0)
    refine OW.callS C (w8 hw) (w9 hw) (w2 hw) (w10 hw) (by decide) (b2 hw (x5.toUInt32 >>> ((8 : Int32) &&& 31).toUInt32).toInt32 (if (x5 &&& (8 : Int32)) = (0 : Int32) then (0 : Int32) else (1 : Int32)) (Nat.le_trans (Nat.le_trans Z0 Kh1.1) Kh4.1) G30 hcs) allN at_81 pd_10 rfl (argsL := [(.int (x5.toUInt32 >>> ((8 : Int32) &&& 31).toUInt32).toInt32), (.int (if (x5 &&& (8 : Int32)) = (0 : Int32) then (0 : Int32) else (1 : Int32)))]) (rest := []) rfl rfl (W := 0) rfl (by decide) (by decide) (by decide) (by decide) (pc' := 84) rfl ?_
    intro vh31 h31 qh31
    obtain ⟨u32, rfl, ru32, Kh31, Xu32⟩ := qh31
    refine OG.ow (OG.astore C at_84 ru32 (ls' := #[.val (.int x0), .val (.int x1), .val (.int x2), .val (.long x3), .second, .val (.int x4), .val (.int x5), .val (.ref (F1 x0 s0 s1 s2 s3 s4 s5 s6 s7 s8 s9 s10 s11 s12 s13)), .val u2, .val u5, .val .null, .val u32, .unset, .unset, .unset]) (by rcases ref_cases ru32 with rfl | ⟨_, rfl⟩ <;> rfl) (pc' := 86) rfl) ?_
    refine OG.ow (OG.iload C at_86 rfl (pc' := 88) rfl) ?_
    refine OG.ow (OG.iload C at_88 rfl (pc' := 90) rfl) ?_
    refine OG.ow (OG.bipush C at_90 (z := (16 : Int32)) (by decide) (pc' := 92) rfl) ?_
    refine OG.ow (OG.iand C at_92 (pc' := 93) rfl) ?_
    refine OG.ow (OG.ite (α := Int32) (P := (x5 &&& (16 : Int32)) = (0 : Int32)) (f := fun v => (mkF m 101 #[.val (.int x0), .val (.int x1), .val (.int x2), .val (.long x3), .second, .val (.int x4), .val (.int x5), .val (.ref (F1 x0 s0 s1 s2 s3 s4 s5 s6 s7 s8 s9 s10 s11 s12 s13)), .val u2, .val u5, .val .null, .val u32, .unset, .unset, .unset] [(.int v), (.int x4)])) (x := (0 : Int32)) (y := (1 : Int32)) (fun hc => ?_) (fun hc => ?_)) ?_
    · refine OG.trans (OG.ifYes C at_93 ((if0 _ _).trans (teq hc).1) (by decide) (pc' := 100) (by decide)) ?_
      refine OG.trans (OG.iconst C at_100 (z := (0 : Int32)) rfl (pc' := 101) rfl) ?_
      exact OG.refl
    · refine OG.trans (OG.ifNo C at_93 ((if0 _ _).trans (feq hc).1) (pc' := 96) rfl) ?_
      refine OG.trans (OG.iconst C at_96 (z := (1 : Int32)) rfl (pc' := 97) rfl) ?_
      refine OG.trans (OG.goto C at_97 (by decide) (pc' := 101) (by decide)) ?_
      exact OG.refl
    have G33 := (Sta.kp G30 Kh31 all0)
    refine OW.callS C (w8 hw) (w9 hw) (w2 hw) (w10 hw) (by decide) (b2 hw x4 (if (x5 &&& (16 : Int32)) = (0 : Int32) then (0 : Int32) else (1 : Int32)) (Nat.le_trans (Nat.le_trans (Nat.le_trans Z0 Kh1.1) Kh4.1) Kh31.1) G33 hcs) allN at_101 pd_10 rfl (argsL := [(.int x4), (.int (if (x5 &&& (16 : Int32)) = (0 : Int32) then (0 : Int32) else (1 : Int32)))]) (rest := []) rfl rfl (W := 0) rfl (by decide) (by decide) (by decide) (by decide) (pc' := 104) rfl ?_
    intro vh34 h34 qh34
    obtain ⟨u35, rfl, ru35, Kh34, Xu35⟩ := qh34
    refine OG.ow (OG.astore C at_104 ru35 (ls' := #[.val (.int x0), .val (.int x1), .val (.int x2), .val (.long x3), .second, .val (.int x4), .val (.int x5), .val (.ref (F1 x0 s0 s1 s2 s3 s4 s5 s6 s7 s8 s9 s10 s11 s12 s13)), .val u2, .val u5, .val .null, .val u32, .val u35, .unset, .unset]) (by rcases ref_cases ru35 with rfl | ⟨_, rfl⟩ <;> rcases ref_cases ru32 with rfl | ⟨_, rfl⟩ <;> rfl) (pc' := 106) rfl) ?_
    refine OW.newO C (w47 hw) (w48 hw) (w49 hw) at_106 (by decide) (by decide) (pc' := 109) rfl ?_
    intro a36 h37 ga36 Eh37 Aa36 Da36
    refine OG.ow (OG.dup C at_109 rfl (pc' := 110) rfl) ?_
    refine OG.ow (OG.aload C at_110 rfl rfl (pc' := 112) rfl) ?_
    refine OG.ow (OG.aload C at_112 rfl ru2 (pc' := 114) rfl) ?_
    refine OG.ow (OG.aload C at_114 rfl ru5 (pc' := 116) rfl) ?_
    refine OG.ow (OG.aload C at_116 rfl rfl (pc' := 118) rfl) ?_
    refine OG.ow (OG.aload C at_118 rfl ru32 (pc' := 120) rfl) ?_
    refine OW.init C (w50 hw) (w51 hw) (w49 hw) (w52 hw) rfl (by decide) (b8 hw a36 (.ref (F1 x0 s0 s1 s2 s3 s4 s5 s6 s7 s8 s9 s10 s11 s12 s13)) rfl u2 ru2 u5 ru5 .null rfl u32 ru32 (Nat.le_trans (Nat.le_trans (Nat.le_trans (Nat.le_trans (Nat.le_trans Z0 Kh1.1) Kh4.1) Kh31.1) Kh34.1) Eh37.1) (Nat.le_trans (Nat.le_trans (Nat.le_trans (Nat.le_trans (Nat.le_trans Z0 Kh1.1) Kh4.1) Kh31.1) Kh34.1) (Nat.le_of_eq ga36)) Aa36 (show Fld Z h37 a36 "com/example/quittance/quittance/AuditEntry" "action" "Lcom/example/quittance/quittance/AuditEntry$Action;" .null from Da36 (Or.inr (w55 hw)) (ty := (.object "com/example/quittance/quittance/AuditEntry$Action")) (by decide)) (show Fld Z h37 a36 "com/example/quittance/quittance/AuditEntry" "document" "Ljava/lang/String;" .null from Da36 (Or.inr (w57 hw)) (ty := (.object "java/lang/String")) (by decide)) (show Fld Z h37 a36 "com/example/quittance/quittance/AuditEntry" "invoice" "Ljava/lang/String;" .null from Da36 (Or.inr (w59 hw)) (ty := (.object "java/lang/String")) (by decide)) (show Fld Z h37 a36 "com/example/quittance/quittance/AuditEntry" "amount" "Lcom/example/quittance/quittance/Amount;" .null from Da36 (Or.inr (w61 hw)) (ty := (.object "com/example/quittance/quittance/Amount")) (by decide)) (show Fld Z h37 a36 "com/example/quittance/quittance/AuditEntry" "reasonCode" "Ljava/lang/String;" .null from Da36 (Or.inr (w63 hw)) (ty := (.object "java/lang/String")) (by decide))) allN at_120 pd_5 rfl (argsL := [(.ref (F1 x0 s0 s1 s2 s3 s4 s5 s6 s7 s8 s9 s10 s11 s12 s13)), u2, u5, .null, u32]) (rest := [(.ref a36)]) rfl rfl (W := 1) rfl (by decide) (by decide) (by decide) (by decide) (pc' := 123) rfl ?_
    intro vh38 h38 qh38
    obtain ⟨rfl, Kh38, Fh38_0, Fh38_1, Fh38_2, Fh38_3, Fh38_4⟩ := qh38
    refine OG.ow (OG.astore C at_123 rfl (ls' := #[.val (.int x0), .val (.int x1), .val (.int x2), .val (.long x3), .second, .val (.int x4), .val (.int x5), .val (.ref (F1 x0 s0 s1 s2 s3 s4 s5 s6 s7 s8 s9 s10 s11 s12 s13)), .val u2, .val u5, .val .null, .val u32, .val u35, .val (.ref a36), .unset]) (by rcases ref_cases ru35 with rfl | ⟨_, rfl⟩ <;> rfl) (pc' := 125) rfl) ?_
    refine OG.ow (OG.aload C at_125 rfl rfl (pc' := 127) rfl) ?_
    refine OG.ow (OG.aload C at_127 rfl ru35 (pc' := 129) rfl) ?_
    have G39 := (Aa36.keep Kh38)
    refine OW.callV C (w64 hw) (w65 hw) (w67 hw) (w66 hw) (w49 hw) (w68 hw) (by decide) G39 (b9 hw a36 u35 ru35 rfl ru2 ru5 rfl ru32 (Nat.le_trans (Nat.le_trans (Nat.le_trans (Nat.le_trans (Nat.le_trans (Nat.le_trans Z0 Kh1.1) Kh4.1) Kh31.1) Kh34.1) Eh37.1) Kh38.1) Fh38_0 Fh38_1 Fh38_2 Fh38_3 Fh38_4) allN at_129 pd_12 rfl (argsL := [u35]) (rest := []) rfl rfl (W := 0) rfl (by decide) (by decide) (by decide) (by decide) (pc' := 132) rfl ?_
    intro vh40 h40 qh40
    obtain ⟨a41, rfl, ga41, Kh40, Ea41, Fh40_0, Fh40_1, Fh40_2, Fh40_3, Fh40_4⟩ := qh40
    refine OG.ow (OG.astore C at_132 rfl (ls' := #[.val (.int x0), .val (.int x1), .val (.int x2), .val (.long x3), .second, .val (.int x4), .val (.int x5), .val (.ref (F1 x0 s0 s1 s2 s3 s4 s5 s6 s7 s8 s9 s10 s11 s12 s13)), .val u2, .val u5, .val .null, .val u32, .val u35, .val (.ref a36), .val (.ref a41)]) rfl (pc' := 134) rfl) ?_
    refine OG.ow (OG.aload C at_134 rfl rfl (pc' := 136) rfl) ?_
    refine OG.ow (OG.ifnonnullYes C at_136 (by decide) (pc' := 141) (by decide)) ?_
    refine OG.ow (OG.aload C at_141 rfl rfl (pc' := 143) rfl) ?_
    refine OG.ow (OG.callV C (w71 hw) (w72 hw) (w74 hw) (w73 hw) (w49 hw) (w75 hw) (by decide) Ea41 (b10 hw a41 rfl (Nat.le_trans (Nat.le_trans (Nat.le_trans (Nat.le_trans (Nat.le_trans (Nat.le_trans (Nat.le_trans Z0 Kh1.1) Kh4.1) Kh31.1) Kh34.1) Eh37.1) Kh38.1) Kh40.1) Fh40_0) allN at_143 pd_13 rfl (argsL := []) (rest := []) rfl rfl (W := 0) rfl (by decide) (by decide) (pc' := 146) rfl) ?_
    refine OG.ow (OG.aload C at_146 rfl rfl (pc' := 148) rfl) ?_
    refine OG.ow (OG.acmp C at_148 rfl rfl (same := true) (decide_eq_true rfl) (by decide) (pc' := 151) (by decide)) ?_
    refine OG.ow (OG.aload C at_151 rfl rfl (pc' := 153) rfl) ?_
    refine OG.ow (OG.callV C (w76 hw) (w77 hw) (w79 hw) (w78 hw) (w49 hw) (w80 hw) (by decide) Ea41 (b11 hw a41 ru2 (Nat.le_trans (Nat.le_trans (Nat.le_trans (Nat.le_trans (Nat.le_trans (Nat.le_trans (Nat.le_trans Z0 Kh1.1) Kh4.1) Kh31.1) Kh34.1) Eh37.1) Kh38.1) Kh40.1) Fh40_1) allN at_153 pd_14 rfl (argsL := []) (rest := []) rfl rfl (W := 0) rfl (by decide) (by decide) (pc' := 156) rfl) ?_
    refine OG.ow (OG.aload C at_156 rfl ru2 (pc' := 158) rfl) ?_
    have G42 := (((SS.ext Eh37 (((Xu2.keep Kh4).keep Kh31).keep Kh34)).keep Kh38).keep Kh40)
    refine OG.ow (OG.callS C (w81 hw) (w82 hw) (w2 hw) (w83 hw) (by decide) (bS hw u2 ru2 (Nat.le_trans (Nat.le_trans (Nat.le_trans (Nat.le_trans (Nat.le_trans (Nat.le_trans (Nat.le_trans Z0 Kh1.1) Kh4.1) Kh31.1) Kh34.1) Eh37.1) Kh38.1) Kh40.1) G42) allN at_158 pd_15 rfl (argsL := [u2, u2]) (rest := []) rfl rfl (W := 0) rfl (by decide) (by decide) (pc' := 161) rfl) ?_
    refine OG.ow (OG.ifNo C at_161 ((if0 _ _).trans (feq (by decide : ¬ ((1 : Int32) = (0 : Int32)))).1) (pc' := 164) rfl) ?_
    refine OG.ow (OG.aload C at_164 rfl rfl (pc' := 166) rfl) ?_
    refine OG.ow (OG.callV C (w89 hw) (w90 hw) (w92 hw) (w91 hw) (w49 hw) (w93 hw) (by decide) Ea41 (b14 hw a41 ru35 (Nat.le_trans (Nat.le_trans (Nat.le_trans (Nat.le_trans (Nat.le_trans (Nat.le_trans (Nat.le_trans Z0 Kh1.1) Kh4.1) Kh31.1) Kh34.1) Eh37.1) Kh38.1) Kh40.1) Fh40_2) allN at_166 pd_14 rfl (argsL := []) (rest := []) rfl rfl (W := 0) rfl (by decide) (by decide) (pc' := 169) rfl) ?_
    refine OG.ow (OG.aload C at_169 rfl ru35 (pc' := 171) rfl) ?_
    have G43 := (((SS.ext Eh37 Xu35).keep Kh38).keep Kh40)
    refine OG.ow (OG.callS C (w81 hw) (w82 hw) (w2 hw) (w83 hw) (by decide) (bS hw u35 ru35 (Nat.le_trans (Nat.le_trans (Nat.le_trans (Nat.le_trans (Nat.le_trans (Nat.le_trans (Nat.le_trans Z0 Kh1.1) Kh4.1) Kh31.1) Kh34.1) Eh37.1) Kh38.1) Kh40.1) G43) allN at_171 pd_15 rfl (argsL := [u35, u35]) (rest := []) rfl rfl (W := 0) rfl (by decide) (by decide) (pc' := 174) rfl) ?_
    refine OG.ow (OG.ifNo C at_174 ((if0 _ _).trans (feq (by decide : ¬ ((1 : Int32) = (0 : Int32)))).1) (pc' := 177) rfl) ?_
    refine OG.ow (OG.aload C at_177 rfl rfl (pc' := 179) rfl) ?_
    refine OG.ow (OG.callV C (w94 hw) (w95 hw) (w97 hw) (w96 hw) (w49 hw) (w98 hw) (by decide) Ea41 (b15 hw a41 rfl (Nat.le_trans (Nat.le_trans (Nat.le_trans (Nat.le_trans (Nat.le_trans (Nat.le_trans (Nat.le_trans Z0 Kh1.1) Kh4.1) Kh31.1) Kh34.1) Eh37.1) Kh38.1) Kh40.1) Fh40_3) allN at_179 pd_16 rfl (argsL := []) (rest := []) rfl rfl (W := 0) rfl (by decide) (by decide) (pc' := 182) rfl) ?_
    refine OG.ow (OG.aload C at_182 rfl rfl (pc' := 184) rfl) ?_
    refine OG.ow (OG.ifnonnullNo C at_184 (pc' := 187) rfl) ?_
    refine OG.ow (OG.iconst C at_187 (z := (1 : Int32)) rfl (pc' := 188) rfl) ?_
    refine OG.ow (OG.goto C at_188 (by decide) (pc' := 192) (by decide)) ?_
    refine OG.ow (OG.lloadN C at_192 rfl (pc' := 193) rfl) ?_
    refine OG.ow (OG.callS C (w99 hw) (w100 hw) (w2 hw) (w101 hw) (by decide) (bAN hw x3 (Nat.le_trans (Nat.le_trans (Nat.le_trans (Nat.le_trans (Nat.le_trans (Nat.le_trans (Nat.le_trans Z0 Kh1.1) Kh4.1) Kh31.1) Kh34.1) Eh37.1) Kh38.1) Kh40.1)) allN at_193 pd_17 rfl (argsL := [.null, (.int (1 : Int32)), (.long x3)]) (rest := []) rfl rfl (W := 0) rfl (by decide) (by decide) (pc' := 196) rfl) ?_
    refine OG.ow (OG.ifNo C at_196 ((if0 _ _).trans (feq (by decide : ¬ ((1 : Int32) = (0 : Int32)))).1) (pc' := 199) rfl) ?_
    refine OG.ow (OG.aload C at_199 rfl rfl (pc' := 201) rfl) ?_
    refine OG.ow (OG.callV C (w107 hw) (w108 hw) (w110 hw) (w109 hw) (w49 hw) (w111 hw) (by decide) Ea41 (b18 hw a41 ru32 (Nat.le_trans (Nat.le_trans (Nat.le_trans (Nat.le_trans (Nat.le_trans (Nat.le_trans (Nat.le_trans Z0 Kh1.1) Kh4.1) Kh31.1) Kh34.1) Eh37.1) Kh38.1) Kh40.1) Fh40_4) allN at_201 pd_14 rfl (argsL := []) (rest := []) rfl rfl (W := 0) rfl (by decide) (by decide) (pc' := 204) rfl) ?_
    refine OG.ow (OG.aload C at_204 rfl ru32 (pc' := 206) rfl) ?_
    have G44 := (((SS.ext Eh37 (Xu32.keep Kh34)).keep Kh38).keep Kh40)
    refine OG.ow (OG.callS C (w81 hw) (w82 hw) (w2 hw) (w83 hw) (by decide) (bS hw u32 ru32 (Nat.le_trans (Nat.le_trans (Nat.le_trans (Nat.le_trans (Nat.le_trans (Nat.le_trans (Nat.le_trans Z0 Kh1.1) Kh4.1) Kh31.1) Kh34.1) Eh37.1) Kh38.1) Kh40.1) G44) allN at_206 pd_15 rfl (argsL := [u32, u32]) (rest := []) rfl rfl (W := 0) rfl (by decide) (by decide) (pc' := 209) rfl) ?_
    refine OG.ow (OG.ifNo C at_209 ((if0 _ _).trans (feq (by decide : ¬ ((1 : Int32) = (0 : Int32)))).1) (pc' := 212) rfl) ?_
    refine OG.ow (OG.aload C at_212 rfl rfl (pc' := 214) rfl) ?_
    have G45 := (Fh38_2.keep Kh40 nin0)
    have G46 := (G39.keep Kh40)
    refine OG.ow (OG.callV C (w89 hw) (w90 hw) (w92 hw) (w91 hw) (w49 hw) (w93 hw) (by decide) G46 (b14 hw a36 ru5 (Nat.le_trans (Nat.le_trans (Nat.le_trans (Nat.le_trans (Nat.le_trans (Nat.le_trans (Nat.le_trans Z0 Kh1.1) Kh4.1) Kh31.1) Kh34.1) Eh37.1) Kh38.1) Kh40.1) G45) allN at_214 pd_14 rfl (argsL := []) (rest := []) rfl rfl (W := 0) rfl (by decide) (by decide) (pc' := 217) rfl) ?_
    refine OG.ow (OG.aload C at_217 rfl ru5 (pc' := 219) rfl) ?_
    have G47 := (((SS.ext Eh37 ((Xu5.keep Kh31).keep Kh34)).keep Kh38).keep Kh40)
    refine OG.ow (OG.callS C (w81 hw) (w82 hw) (w2 hw) (w83 hw) (by decide) (bS hw u5 ru5 (Nat.le_trans (Nat.le_trans (Nat.le_trans (Nat.le_trans (Nat.le_trans (Nat.le_trans (Nat.le_trans Z0 Kh1.1) Kh4.1) Kh31.1) Kh34.1) Eh37.1) Kh38.1) Kh40.1) G47) allN at_219 pd_15 rfl (argsL := [u5, u5]) (rest := []) rfl rfl (W := 0) rfl (by decide) (by decide) (pc' := 222) rfl) ?_
    refine OG.ow (OG.ifNo C at_222 ((if0 _ _).trans (feq (by decide : ¬ ((1 : Int32) = (0 : Int32)))).1) (pc' := 225) rfl) ?_
    refine OG.ow (OG.iconst C at_225 (z := (1 : Int32)) rfl (pc' := 226) rfl) ?_
    refine OG.ow (OG.goto C at_226 (by decide) (pc' := 230) (by decide)) ?_
    refine OW.retN (t := .boolean) C (by simp) at_230 (by decide) (by decide) ?_
    rfl
set_option maxRecDepth 65536 in
set_option maxHeartbeats 40000000 in
theorem comes_1 {Post : Tables → Env → Array Value → State → Outcome → State → Prop} (hpost : ∀ tb e args s v u, (limb_1_1.after args s (.returned v) u = true ∧ limb_1_2.after args s (.returned v) u = true ∧ True) → ReturnedEndW s (.returned v) u (Jvm.fieldLocs frame_1_writes args s ++ Jvm.arrayLocs frame_1_arrays args s ++ Jvm.staticLocs frame_1_statics s) 40 1216 → Post tb e args s (.returned v) u) :
    ArmFor flags0 classFile x code maxLocals ret World_1 tables_1 room_1 Calls_1 rest_1 Pre_1 Post := by
  intro l hfl _ _ p e ha hc hk s m args below hf hA hF happ hP
  obtain ⟨hcalls, hrest, hpre⟩ := hP
  obtain ⟨-, -, -, hnamed, -, -, -, hat⟩ := (Spec.applies_iff hf).mp happ
  obtain ⟨hg, hn⟩ := and_e (Cond.before_iff.mp (show (Jvm.Cond.and given_1 narrow_1).before args s = true from hpre))
  obtain ⟨h1, q0⟩ := and_e hg
  obtain ⟨k0, q1⟩ := and_e q0
  obtain ⟨k1, q2⟩ := and_e q1
  obtain ⟨k2, q3⟩ := and_e q2
  obtain ⟨k3, q4⟩ := and_e q3
  obtain ⟨k4, q5⟩ := and_e q4
  obtain ⟨u0, u1, u2, u3, u4, u5, rfl⟩ : ∃ u0 u1 u2 u3 u4 u5 : Value, args = #[u0, u1, u2, u3, u4, u5] := by
    have hs : args.size = 6 := by simpa [Cond.value, given_1] using h1
    obtain ⟨L⟩ := args
    match L, hs with
    | [u0, u1, u2, u3, u4, u5], _ => exact ⟨u0, u1, u2, u3, u4, u5, rfl⟩
  have hw : HW #[u0, u1, u2, u3, u4, u5] s := fun d (hd : d ∈ tables_1) => atoms_spec (ws := Jvm.Cond.code x code maxLocals ret :: tables_1) hat d (List.mem_cons_of_mem _ hd)
  have hfit : Fit s := fun {y c} hc i hi => by
    obtain ⟨ha, rfl⟩ := Array.getElem?_eq_some_iff.mp hc
    have q := List.all_eq_true.mp ((Array.all_eq_true_iff_forall_mem.mp hF) _ (Array.getElem_mem ha)) i (List.mem_range.mpr hi)
    simpa [Array.getElem?_eq_getElem hi] using q
  obtain ⟨i0, e0⟩ := is_v k0
  obtain rfl : u0 = (.int i0) := Option.some.inj e0
  obtain ⟨i1, e1⟩ := is_v k1
  obtain rfl : u1 = (.int i1) := Option.some.inj e1
  obtain ⟨i2, e2⟩ := is_v k2
  obtain rfl : u2 = (.int i2) := Option.some.inj e2
  obtain ⟨i3, e3⟩ := isL_v k3
  obtain rfl : u3 = (.long i3) := Option.some.inj e3
  obtain ⟨i4, e4⟩ := is_v k4
  obtain rfl : u4 = (.int i4) := Option.some.inj e4
  obtain ⟨i5, e5⟩ := is_v q5
  obtain rfl : u5 = (.int i5) := Option.some.inj e5
  obtain ⟨hsets, hown0⟩ := atoms_of _ (rest_1_c_eq ▸ (show rest_1_c.before _ s = true from hrest))
  have ncs := not_v (Cond.before_iff.mp (hsets _ (List.mem_of_getElem? (i := 2) rfl)))
  obtain ⟨cs, ecs⟩ := is_v (Cond.before_iff.mp (hsets _ (List.mem_of_getElem? (i := 1) rfl)))
  have Scs : Sta s s.heap "java/lang/String" "COMPACT_STRINGS" "Z" (.int cs) := Sta.start ecs (Or.inl (hsets _ (List.mem_of_getElem? (i := 0) rfl)))
  have hcs : ¬ (cs = (0 : Int32)) := gotF (Cond.eq_ints ecs (Term.int_eval (0))) ncs
  obtain ⟨m0, mr0⟩ := and_e hn
  obtain ⟨m1, mr1⟩ := and_e mr0
  obtain ⟨m2, mr2⟩ := and_e mr1
  obtain ⟨m3, mr3⟩ := and_e mr2
  obtain ⟨m4, mr4⟩ := and_e mr3
  obtain ⟨m5, mr5⟩ := and_e mr4
  obtain ⟨m6, mr6⟩ := and_e mr5
  obtain ⟨m7, mr7⟩ := and_e mr6
  obtain ⟨m8, mr8⟩ := and_e mr7
  obtain ⟨m9, mr9⟩ := and_e mr8
  obtain ⟨m10, mr10⟩ := and_e mr9
  obtain ⟨m11, mr11⟩ := and_e mr10
  obtain ⟨m12, m13⟩ := and_e mr11
  have ncw : Jvm.Lit.compactW.before #[.int i0, .int i1, .int i2, .long i3, .int i4, .int i5] s = true := hsets _ (List.mem_of_getElem? (i := 2) rfl)
  have HCH : CHv s EL0 s.vm s.heap := CHv.start (own_EL hw) (fun p hp => hcalls.1 p hp) ncw (w26 hw) (w12 hw)
  obtain ⟨s0, r0⟩ := exa_v m0
  obtain ⟨s1, r1⟩ := exa_v m1
  obtain ⟨s2, r2⟩ := exa_v m2
  obtain ⟨s3, r3⟩ := exa_v m3
  obtain ⟨s4, r4⟩ := exa_v m4
  obtain ⟨s5, r5⟩ := exa_v m5
  obtain ⟨s6, r6⟩ := exa_v m6
  obtain ⟨s7, r7⟩ := exa_v m7
  obtain ⟨s8, r8⟩ := exa_v m8
  obtain ⟨s9, r9⟩ := exa_v m9
  obtain ⟨s10, r10⟩ := exa_v m10
  obtain ⟨s11, r11⟩ := exa_v m11
  obtain ⟨s12, r12⟩ := exa_v m12
  obtain ⟨s13, r13⟩ := exa_v m13
  obtain ⟨n, o, h1, h2, h3, _, L, rfl, ⟨hv, N⟩, -, hq⟩ := b0 (l := l) hw i0 i1 i2 i3 i4 i5 (Nat.le_refl _) Scs hcs (Sta.start r0 (Or.inr ⟨(w6 hw), (w7 hw)⟩)) (Sta.start r1 (Or.inr ⟨(w6 hw), (w113 hw)⟩)) (Sta.start r2 (Or.inr ⟨(w6 hw), (w115 hw)⟩)) (Sta.start r3 (Or.inr ⟨(w6 hw), (w128 hw)⟩)) (Sta.start r4 (Or.inr ⟨(w6 hw), (w130 hw)⟩)) (Sta.start r5 (Or.inr ⟨(w6 hw), (w132 hw)⟩)) (Sta.start r6 (Or.inr ⟨(w6 hw), (w134 hw)⟩)) (Sta.start r7 (Or.inr ⟨(w6 hw), (w136 hw)⟩)) (Sta.start r8 (Or.inr ⟨(w6 hw), (w138 hw)⟩)) (Sta.start r9 (Or.inr ⟨(w6 hw), (w140 hw)⟩)) (Sta.start r10 (Or.inr ⟨(w6 hw), (w142 hw)⟩)) (Sta.start r11 (Or.inr ⟨(w6 hw), (w144 hw)⟩)) (Sta.start r12 (Or.inr ⟨(w6 hw), (w146 hw)⟩)) (Sta.start r13 (Or.inr ⟨(w6 hw), (w148 hw)⟩)) (n0 := s.heap.size) (h := s.heap) tables_1 p e ha hc hk s m _ below hf ((Spec.applies_iff_loose hf).mp happ).1 ⟨rfl, State.Warmed39.refl s, rfl, HCH, fun x q => absurd q List.not_mem_nil⟩ trivial
  subst hv
  refine ⟨n, _, h1, h2, h3, hpost _ _ _ _ _ _ ⟨Cond.after_iff.mpr rfl, Cond.after_iff.mpr (eq_i res_at (Term.int_eval (1)) rfl), trivial⟩ ⟨hq.1, hq.2.1, hq.2.2.1, (hq.2.2.2.sift fun y hy => Or.inr (N y hy)).mono (by decide) (by decide)⟩⟩
theorem main_1_1 : Claimed_1_1 := comes_1 fun _ _ _ _ _ _ h hF => ⟨h.1, hF⟩
theorem main_1_2 : Claimed_1_2 := comes_1 fun _ _ _ _ _ _ h hF => ⟨h.2.1, hF⟩
end Jvm.Pilot.@@N@@
namespace Jvm.Pilot.@@N@@
open Jvm Jvm.ClassFile Sem Op Lib Jvm.Free Jvm.Stand Jvm.Pilot.@@N@@.Jvm.D
/-! MADE BY PROGRAM (witnessworld.py) out of the Statement's table words and the real class files: 24 classes; the members and pool entries that the words name. The judged class is class 1, her method 1. -/
namespace start1
open Jvm.ClassFile
def u (s : String) : CpInfo := .utf8 (stringToUtf16 s)
/-- a pool by its gaps: so many unusable entries, then the entry; so many at the end -/
def gap : Nat → List CpInfo → List CpInfo
  | 0, r => r
  | n + 1, r => .unusable :: gap n r
def poolList (es : List (Nat × CpInfo)) (last : Nat) : List CpInfo := es.foldr (fun e r => gap e.1 (e.2 :: r)) (gap last [])
def pool (es : List (Nat × CpInfo)) (last : Nat) : Array CpInfo := ⟨poolList es last⟩
def fileOf (pool : Array CpInfo) (this : Nat) (attrs : Array Attribute := #[]) (ms : Array MethodInfo := #[]) (fl : Nat := 33) (sup : Nat := 0) (ifs : Array Nat := #[]) (fds : Array FieldInfo := #[]) : ClassFile where
  minorVersion := 0
  majorVersion := 65
  constantPool := pool
  accessFlags := fl
  thisClass := this
  superClass := sup
  interfaces := ifs
  fields := fds
  methods := ms
  attributes := attrs
def plain (name : String) (sup : Option ClassId) : Class where
  name := name
  kind := .ordinary
  loader := none
  accessFlags := 33
  super := sup
  interfaces := #[]
  cf := none
  fields := #[]
  methods := #[]
  instanceTypes := #[]
  staticTypes := #[]
  resolved := #[]
  callSites := []
  init := .initialized
  statics := none
  mirror := none

def pool0 : Array CpInfo := pool [(5, u "<init>"), (0, u "()V"), (1, .class_ 10), (1, u "java/lang/Object")] 113

def k0c0 : Code := { maxStack := 0, maxLocals := 1, code := object_method_1_code, exceptionTable := #[], attributes := #[] }
def k0m0 : Method := { name := "<init>", desc := "()V", sig := { parameters := [], returnType := none }, accessFlags := 1, code := some k0c0 }
/-- java/lang/Object -/
def k0 : Class := { plain "java/lang/Object" none with
  accessFlags := 33
  interfaces := #[]
  cf := some (fileOf pool0 8 #[] #[{ accessFlags := 1, nameIndex := 5, descriptorIndex := 6, attributes := #[] }] 33 0 #[] #[])
  fields := #[]
  methods := #[k0m0]
  instanceTypes := #[]
  staticTypes := #[]
  resolved := Array.replicate 124 none
  statics := none }

def pool1 : Array CpInfo := pool [(2, .class_ 4), (1, u "java/lang/Object"), (0, u "<init>"), (0, u "()V"), (0, .methodref 8 9), (0, .class_ 10), (0, .nameAndType 11 12), (0, u "com/example/quittance/quittance/AuditEntryWithInvoicePinLaw"), (0, u "action"), (0, u "(I)Lcom/example/quittance/quittance/AuditEntry$Action;"), (0, .methodref 8 14), (0, .nameAndType 15 16), (0, u "str"), (0, u "(IZ)Ljava/lang/String;"), (0, .class_ 18), (0, u "com/example/quittance/quittance/Amount"), (0, .methodref 17 20), (0, .nameAndType 5 21), (0, u "(J)V"), (0, .class_ 23), (0, u "com/example/quittance/quittance/AuditEntry"), (0, .methodref 22 25), (0, .nameAndType 5 26), (0, u "(Lcom/example/quittance/quittance/AuditEntry$Action;Ljava/lang/String;Ljava/lang/String;Lcom/example/quittance/quittance/Amount;Ljava/lang/String;)V"), (0, .methodref 22 28), (0, .nameAndType 29 30), (0, u "withInvoice"), (0, u "(Ljava/lang/String;)Lcom/example/quittance/quittance/AuditEntry;"), (0, .methodref 22 32), (0, .nameAndType 11 33), (0, u "()Lcom/example/quittance/quittance/AuditEntry$Action;"), (0, .methodref 22 35), (0, .nameAndType 36 37), (0, u "document"), (0, u "()Ljava/lang/String;"), (0, .methodref 8 39), (0, .nameAndType 40 41), (0, u "same"), (0, u "(Ljava/lang/String;Ljava/lang/String;)Z"), (0, .methodref 22 43), (0, .nameAndType 44 37), (0, u "invoice"), (0, .methodref 22 46), (0, .nameAndType 47 48), (0, u "amount"), (0, u "()Lcom/example/quittance/quittance/Amount;"), (0, .methodref 8 50), (0, .nameAndType 51 52), (0, u "sameAmount"), (0, u "(Lcom/example/quittance/quittance/Amount;ZJ)Z"), (0, .methodref 22 54), (0, .nameAndType 55 37), (0, u "reasonCode"), (0, .methodref 57 58), (0, .class_ 59), (0, .nameAndType 60 61), (0, u "java/lang/String"), (0, u "equals"), (0, u "(Ljava/lang/Object;)Z"), (0, .methodref 17 63), (0, .nameAndType 64 65), (0, u "cents"), (0, u "()J"), (0, .methodref 57 67), (0, .nameAndType 5 68), (0, u "([C)V"), (0, .integer 2147483647), (0, .fieldref 71 72), (0, .class_ 73), (0, .nameAndType 74 75), (0, u "com/example/quittance/quittance/AuditEntry$Action"), (0, u "REASON_CODE_SET"), (0, u "Lcom/example/quittance/quittance/AuditEntry$Action;"), (0, .fieldref 71 77), (0, .nameAndType 78 75), (0, u "CUSTOMER_CREATED"), (0, .fieldref 71 80), (0, .nameAndType 81 75), (0, u "INVOICE_DRAFTED"), (0, .fieldref 71 83), (0, .nameAndType 84 75), (0, u "INVOICE_POSTED"), (0, .fieldref 71 86), (0, .nameAndType 87 75), (0, u "INVOICE_ADJUSTED"), (0, .fieldref 71 89), (0, .nameAndType 90 75), (0, u "PAYMENT_RECORDED"), (0, .fieldref 71 92), (0, .nameAndType 93 75), (0, u "PAYMENT_APPLIED"), (0, .fieldref 71 95), (0, .nameAndType 96 75), (0, u "PAYMENT_APPLICATION_REVERSED"), (0, .fieldref 71 98), (0, .nameAndType 99 75), (0, u "CUSTOMER_CREDIT_CREATED"), (0, .fieldref 71 101), (0, .nameAndType 102 75), (0, u "CREDIT_NOTE_DRAFTED"), (0, .fieldref 71 104), (0, .nameAndType 105 75), (0, u "CREDIT_MEMO_POSTED"), (0, .fieldref 71 107), (0, .nameAndType 108 75), (0, u "CREDIT_ALLOCATED"), (0, .fieldref 71 110), (0, .nameAndType 111 75), (0, u "CREDIT_REFUNDED"), (0, .fieldref 71 113), (0, .nameAndType 114 75), (0, u "CREDIT_NOTE_VOIDED"), (2, u "law"), (0, u "(IIIJII)Z")] 5

def k1m0 : Method := { name := "<init>", desc := "()V", sig := { parameters := [], returnType := none }, accessFlags := 1, code := none }
def k1c1 : Code := { maxStack := 7, maxLocals := 15, code := code, exceptionTable := #[], attributes := #[] }
def k1m1 : Method := { name := "law", desc := "(IIIJII)Z", sig := { parameters := [.int, .int, .int, .long, .int, .int], returnType := some .boolean }, accessFlags := 9, code := some k1c1 }
def k1c2 : Code := { maxStack := 2, maxLocals := 2, code := method_3_code, exceptionTable := #[], attributes := #[] }
def k1m2 : Method := { name := "same", desc := "(Ljava/lang/String;Ljava/lang/String;)Z", sig := { parameters := [(.object "java/lang/String"), (.object "java/lang/String")], returnType := some .boolean }, accessFlags := 10, code := some k1c2 }
def k1c3 : Code := { maxStack := 4, maxLocals := 4, code := method_4_code, exceptionTable := #[], attributes := #[] }
def k1m3 : Method := { name := "sameAmount", desc := "(Lcom/example/quittance/quittance/Amount;ZJ)Z", sig := { parameters := [(.object "com/example/quittance/quittance/Amount"), .boolean, .long], returnType := some .boolean }, accessFlags := 10, code := some k1c3 }
def k1c4 : Code := { maxStack := 6, maxLocals := 6, code := method_5_code, exceptionTable := #[], attributes := #[] }
def k1m4 : Method := { name := "str", desc := "(IZ)Ljava/lang/String;", sig := { parameters := [.int, .boolean], returnType := some (.object "java/lang/String") }, accessFlags := 10, code := some k1c4 }
def k1c5 : Code := { maxStack := 2, maxLocals := 2, code := method_6_code, exceptionTable := #[], attributes := #[] }
def k1m5 : Method := { name := "action", desc := "(I)Lcom/example/quittance/quittance/AuditEntry$Action;", sig := { parameters := [.int], returnType := some (.object "com/example/quittance/quittance/AuditEntry$Action") }, accessFlags := 10, code := some k1c5 }
/-- com/example/quittance/quittance/AuditEntryWithInvoicePinLaw -/
def k1 : Class := { plain "com/example/quittance/quittance/AuditEntryWithInvoicePinLaw" (some 0) with
  accessFlags := 49
  interfaces := #[]
  cf := some (fileOf pool1 8 #[] #[{ accessFlags := 1, nameIndex := 5, descriptorIndex := 6, attributes := #[] }, { accessFlags := 9, nameIndex := 117, descriptorIndex := 118, attributes := #[] }, { accessFlags := 10, nameIndex := 40, descriptorIndex := 41, attributes := #[] }, { accessFlags := 10, nameIndex := 51, descriptorIndex := 52, attributes := #[] }, { accessFlags := 10, nameIndex := 15, descriptorIndex := 16, attributes := #[] }, { accessFlags := 10, nameIndex := 11, descriptorIndex := 12, attributes := #[] }] 49 2 #[] #[])
  fields := #[]
  methods := #[k1m0, k1m1, k1m2, k1m3, k1m4, k1m5]
  instanceTypes := #[]
  staticTypes := #[]
  resolved := Array.replicate 124 none
  statics := none }

def pool2 : Array CpInfo := pool [(1, .class_ 2), (0, u "java/lang/constant/Constable"), (0, .class_ 4), (0, u "java/lang/Object")] 6

/-- java/lang/constant/Constable -/
def k2 : Class := { plain "java/lang/constant/Constable" (some 0) with
  accessFlags := 1537
  interfaces := #[]
  cf := some (fileOf pool2 1 #[] #[] 1537 3 #[] #[])
  fields := #[]
  methods := #[]
  instanceTypes := #[]
  staticTypes := #[]
  resolved := Array.replicate 11 none
  statics := none }

def pool3 : Array CpInfo := pool [(1, .class_ 2), (0, u "java/lang/Comparable"), (0, .class_ 4), (0, u "java/lang/Object")] 7

/-- java/lang/Comparable -/
def k3 : Class := { plain "java/lang/Comparable" (some 0) with
  accessFlags := 1537
  interfaces := #[]
  cf := some (fileOf pool3 1 #[] #[] 1537 3 #[] #[])
  fields := #[]
  methods := #[]
  instanceTypes := #[]
  staticTypes := #[]
  resolved := Array.replicate 12 none
  statics := none }

def pool4 : Array CpInfo := pool [(1, .class_ 2), (0, u "java/io/Serializable"), (0, .class_ 4), (0, u "java/lang/Object")] 2

/-- java/io/Serializable -/
def k4 : Class := { plain "java/io/Serializable" (some 0) with
  accessFlags := 1537
  interfaces := #[]
  cf := some (fileOf pool4 1 #[] #[] 1537 3 #[] #[])
  fields := #[]
  methods := #[]
  instanceTypes := #[]
  staticTypes := #[]
  resolved := Array.replicate 7 none
  statics := none }

def pool5 : Array CpInfo := pool [(2, .class_ 4), (1, u "java/lang/Enum"), (0, u "name"), (0, u "Ljava/lang/String;"), (2, u "ordinal"), (0, u "I"), (1, .class_ 14), (1, u "java/lang/Object"), (4, u "hash"), (86, .class_ 108), (1, u "java/lang/Enum$EnumDesc"), (2, .class_ 112), (0, u "java/lang/constant/Constable"), (0, .class_ 114), (0, u "java/lang/Comparable"), (0, .class_ 116), (0, u "java/io/Serializable")] 87

/-- java/lang/Enum -/
def k5 : Class := { plain "java/lang/Enum" (some 0) with
  accessFlags := 1057
  interfaces := #[2, 3, 4]
  cf := some (fileOf pool5 2 #[.nestMembers #[106]] #[] 1057 12 #[111, 113, 115] #[{ accessFlags := 18, nameIndex := 5, descriptorIndex := 6, attributes := #[] }, { accessFlags := 18, nameIndex := 9, descriptorIndex := 10, attributes := #[] }, { accessFlags := 2, nameIndex := 19, descriptorIndex := 10, attributes := #[] }])
  fields := #[{ name := "name", type := (.object "java/lang/String"), accessFlags := 18, slot := 0, constantValue := 0 }, { name := "ordinal", type := .int, accessFlags := 18, slot := 1, constantValue := 0 }, { name := "hash", type := .int, accessFlags := 2, slot := 2, constantValue := 0 }]
  methods := #[]
  instanceTypes := #[(.object "java/lang/String"), .int, .int]
  staticTypes := #[]
  resolved := Array.replicate 204 none
  statics := none }

def pool6 : Array CpInfo := pool [(1, .class_ 2), (0, u "com/example/quittance/quittance/AuditEntry$Action"), (2, u "REASON_CODE_SET"), (0, u "Lcom/example/quittance/quittance/AuditEntry$Action;"), (2, u "CUSTOMER_CREATED"), (2, u "INVOICE_DRAFTED"), (2, u "INVOICE_POSTED"), (2, u "INVOICE_ADJUSTED"), (2, u "PAYMENT_RECORDED"), (2, u "PAYMENT_APPLIED"), (2, u "PAYMENT_APPLICATION_REVERSED"), (2, u "CUSTOMER_CREDIT_CREATED"), (2, u "CREDIT_NOTE_DRAFTED"), (2, u "CREDIT_MEMO_POSTED"), (2, u "CREDIT_ALLOCATED"), (2, u "CREDIT_REFUNDED"), (2, u "CREDIT_NOTE_VOIDED"), (2, u "$VALUES"), (0, u "[Lcom/example/quittance/quittance/AuditEntry$Action;"), (6, .class_ 58), (1, u "java/lang/Enum"), (37, .class_ 97), (0, u "com/example/quittance/quittance/AuditEntry")] 2

/-- com/example/quittance/quittance/AuditEntry$Action -/
def k6 : Class := { plain "com/example/quittance/quittance/AuditEntry$Action" (some 5) with
  accessFlags := 16432
  interfaces := #[]
  cf := some (fileOf pool6 1 #[.nestHost 96] #[] 16432 56 #[] #[{ accessFlags := 16409, nameIndex := 5, descriptorIndex := 6, attributes := #[] }, { accessFlags := 16409, nameIndex := 9, descriptorIndex := 6, attributes := #[] }, { accessFlags := 16409, nameIndex := 12, descriptorIndex := 6, attributes := #[] }, { accessFlags := 16409, nameIndex := 15, descriptorIndex := 6, attributes := #[] }, { accessFlags := 16409, nameIndex := 18, descriptorIndex := 6, attributes := #[] }, { accessFlags := 16409, nameIndex := 21, descriptorIndex := 6, attributes := #[] }, { accessFlags := 16409, nameIndex := 24, descriptorIndex := 6, attributes := #[] }, { accessFlags := 16409, nameIndex := 27, descriptorIndex := 6, attributes := #[] }, { accessFlags := 16409, nameIndex := 30, descriptorIndex := 6, attributes := #[] }, { accessFlags := 16409, nameIndex := 33, descriptorIndex := 6, attributes := #[] }, { accessFlags := 16409, nameIndex := 36, descriptorIndex := 6, attributes := #[] }, { accessFlags := 16409, nameIndex := 39, descriptorIndex := 6, attributes := #[] }, { accessFlags := 16409, nameIndex := 42, descriptorIndex := 6, attributes := #[] }, { accessFlags := 16409, nameIndex := 45, descriptorIndex := 6, attributes := #[] }, { accessFlags := 4122, nameIndex := 48, descriptorIndex := 49, attributes := #[] }])
  fields := #[{ name := "REASON_CODE_SET", type := (.object "com/example/quittance/quittance/AuditEntry$Action"), accessFlags := 16409, slot := 0, constantValue := 0 }, { name := "CUSTOMER_CREATED", type := (.object "com/example/quittance/quittance/AuditEntry$Action"), accessFlags := 16409, slot := 1, constantValue := 0 }, { name := "INVOICE_DRAFTED", type := (.object "com/example/quittance/quittance/AuditEntry$Action"), accessFlags := 16409, slot := 2, constantValue := 0 }, { name := "INVOICE_POSTED", type := (.object "com/example/quittance/quittance/AuditEntry$Action"), accessFlags := 16409, slot := 3, constantValue := 0 }, { name := "INVOICE_ADJUSTED", type := (.object "com/example/quittance/quittance/AuditEntry$Action"), accessFlags := 16409, slot := 4, constantValue := 0 }, { name := "PAYMENT_RECORDED", type := (.object "com/example/quittance/quittance/AuditEntry$Action"), accessFlags := 16409, slot := 5, constantValue := 0 }, { name := "PAYMENT_APPLIED", type := (.object "com/example/quittance/quittance/AuditEntry$Action"), accessFlags := 16409, slot := 6, constantValue := 0 }, { name := "PAYMENT_APPLICATION_REVERSED", type := (.object "com/example/quittance/quittance/AuditEntry$Action"), accessFlags := 16409, slot := 7, constantValue := 0 }, { name := "CUSTOMER_CREDIT_CREATED", type := (.object "com/example/quittance/quittance/AuditEntry$Action"), accessFlags := 16409, slot := 8, constantValue := 0 }, { name := "CREDIT_NOTE_DRAFTED", type := (.object "com/example/quittance/quittance/AuditEntry$Action"), accessFlags := 16409, slot := 9, constantValue := 0 }, { name := "CREDIT_MEMO_POSTED", type := (.object "com/example/quittance/quittance/AuditEntry$Action"), accessFlags := 16409, slot := 10, constantValue := 0 }, { name := "CREDIT_ALLOCATED", type := (.object "com/example/quittance/quittance/AuditEntry$Action"), accessFlags := 16409, slot := 11, constantValue := 0 }, { name := "CREDIT_REFUNDED", type := (.object "com/example/quittance/quittance/AuditEntry$Action"), accessFlags := 16409, slot := 12, constantValue := 0 }, { name := "CREDIT_NOTE_VOIDED", type := (.object "com/example/quittance/quittance/AuditEntry$Action"), accessFlags := 16409, slot := 13, constantValue := 0 }, { name := "$VALUES", type := (.array (.object "com/example/quittance/quittance/AuditEntry$Action")), accessFlags := 4122, slot := 14, constantValue := 0 }]
  methods := #[]
  instanceTypes := #[(.object "java/lang/String"), .int, .int]
  staticTypes := #[(.object "com/example/quittance/quittance/AuditEntry$Action"), (.object "com/example/quittance/quittance/AuditEntry$Action"), (.object "com/example/quittance/quittance/AuditEntry$Action"), (.object "com/example/quittance/quittance/AuditEntry$Action"), (.object "com/example/quittance/quittance/AuditEntry$Action"), (.object "com/example/quittance/quittance/AuditEntry$Action"), (.object "com/example/quittance/quittance/AuditEntry$Action"), (.object "com/example/quittance/quittance/AuditEntry$Action"), (.object "com/example/quittance/quittance/AuditEntry$Action"), (.object "com/example/quittance/quittance/AuditEntry$Action"), (.object "com/example/quittance/quittance/AuditEntry$Action"), (.object "com/example/quittance/quittance/AuditEntry$Action"), (.object "com/example/quittance/quittance/AuditEntry$Action"), (.object "com/example/quittance/quittance/AuditEntry$Action"), (.array (.object "com/example/quittance/quittance/AuditEntry$Action"))]
  resolved := Array.replicate 100 none
  statics := some 0 }

def pool7 : Array CpInfo := pool [(2, .class_ 4), (1, u "java/lang/CharSequence"), (42, .class_ 48), (0, u "java/lang/CharSequence$1CodePointIterator"), (10, .class_ 60), (0, u "java/lang/CharSequence$1CharIterator"), (5, .class_ 67), (0, u "java/lang/Object")] 63

/-- java/lang/CharSequence -/
def k7 : Class := { plain "java/lang/CharSequence" (some 0) with
  accessFlags := 1537
  interfaces := #[]
  cf := some (fileOf pool7 2 #[.nestMembers #[47, 59]] #[] 1537 66 #[] #[])
  fields := #[]
  methods := #[]
  instanceTypes := #[]
  staticTypes := #[]
  resolved := Array.replicate 131 none
  statics := none }

def pool8 : Array CpInfo := pool [(1, .class_ 2), (0, u "java/lang/constant/ConstantDesc"), (0, .class_ 4), (0, u "java/lang/Object")] 32

/-- java/lang/constant/ConstantDesc -/
def k8 : Class := { plain "java/lang/constant/ConstantDesc" (some 0) with
  accessFlags := 1537
  interfaces := #[]
  cf := some (fileOf pool8 1 #[] #[] 1537 3 #[] #[])
  fields := #[]
  methods := #[]
  instanceTypes := #[]
  staticTypes := #[]
  resolved := Array.replicate 37 none
  statics := none }

def pool9 : Array CpInfo := pool [(1, .methodref 2 3), (0, .class_ 4), (0, .nameAndType 5 6), (0, u "java/lang/Object"), (0, u "<init>"), (0, u "()V"), (0, .string 8), (0, u ""), (0, .fieldref 10 11), (0, .class_ 12), (0, .nameAndType 13 14), (0, u "java/lang/String"), (0, u "value"), (0, u "[B"), (0, .fieldref 10 16), (0, .nameAndType 17 18), (0, u "coder"), (0, u "B"), (2, u "hash"), (0, u "I"), (2, u "hashIsZero"), (0, u "Z"), (0, .methodref 10 28), (0, .nameAndType 5 29), (0, u "([CIILjava/lang/Void;)V"), (8, .fieldref 10 39), (0, .nameAndType 40 26), (0, u "COMPACT_STRINGS"), (1, .class_ 44), (1, u "java/lang/StringUTF16"), (0, u "compress"), (1, .methodref 42 48), (0, .nameAndType 49 50), (0, u "coderFromArrayLen"), (0, u "([BI)B"), (126, .methodref 42 178), (0, .nameAndType 45 179), (0, u "([CII)[B"), (363, u "equals"), (29, u "(Ljava/lang/Object;)Z"), (1, .class_ 576), (0, u "java/lang/CharSequence"), (22, u "CASE_INSENSITIVE_ORDER"), (0, u "Ljava/util/Comparator;"), (409, u "([C)V"), (90, u "serialPersistentFields"), (0, u "[Ljava/io/ObjectStreamField;"), (0, .class_ 1104), (0, u "java/lang/String$CaseInsensitiveComparator"), (1, .class_ 1107), (0, u "java/io/Serializable"), (0, .class_ 1109), (0, u "java/lang/Comparable"), (0, .class_ 1111), (0, u "java/lang/constant/Constable"), (0, .class_ 1113), (0, u "java/lang/constant/ConstantDesc"), (2, u "serialVersionUID"), (0, u "J"), (3, u "REPL"), (0, u "C"), (2, u "LATIN1"), (1, u "UTF16")] 323

def k9m0 : Method := { name := "<init>", desc := "()V", sig := { parameters := [], returnType := none }, accessFlags := 1, code := none }
def k9c1 : Code := { maxStack := 5, maxLocals := 2, code := jdk_42_method_3_code, exceptionTable := #[], attributes := #[] }
def k9m1 : Method := { name := "<init>", desc := "([C)V", sig := { parameters := [(.array .char)], returnType := none }, accessFlags := 1, code := some k9c1 }
def k9c2 : Code := { maxStack := 2, maxLocals := 3, code := jdk_42_method_66_code, exceptionTable := #[], attributes := #[] }
def k9m2 : Method := { name := "equals", desc := "(Ljava/lang/Object;)Z", sig := { parameters := [(.object "java/lang/Object")], returnType := some .boolean }, accessFlags := 1, code := some k9c2 }
def k9c3 : Code := { maxStack := 4, maxLocals := 6, code := jdk_42_method_149_code, exceptionTable := #[], attributes := #[] }
def k9m3 : Method := { name := "<init>", desc := "([CIILjava/lang/Void;)V", sig := { parameters := [(.array .char), .int, .int, (.object "java/lang/Void")], returnType := none }, accessFlags := 2, code := some k9c3 }
/-- java/lang/String -/
def k9 : Class := { plain "java/lang/String" (some 0) with
  accessFlags := 49
  interfaces := #[4, 3, 7, 2, 8]
  cf := some (fileOf pool9 10 #[.nestMembers #[1103]] #[{ accessFlags := 1, nameIndex := 5, descriptorIndex := 6, attributes := #[] }, { accessFlags := 1, nameIndex := 5, descriptorIndex := 1010, attributes := #[] }, { accessFlags := 1, nameIndex := 543, descriptorIndex := 573, attributes := #[] }, { accessFlags := 2, nameIndex := 5, descriptorIndex := 29, attributes := #[] }] 49 2 #[1106, 1108, 575, 1110, 1112] #[{ accessFlags := 18, nameIndex := 13, descriptorIndex := 14, attributes := #[] }, { accessFlags := 18, nameIndex := 17, descriptorIndex := 18, attributes := #[] }, { accessFlags := 2, nameIndex := 21, descriptorIndex := 22, attributes := #[] }, { accessFlags := 2, nameIndex := 25, descriptorIndex := 26, attributes := #[] }, { accessFlags := 26, nameIndex := 1116, descriptorIndex := 1117, attributes := #[] }, { accessFlags := 24, nameIndex := 40, descriptorIndex := 26, attributes := #[] }, { accessFlags := 26, nameIndex := 1101, descriptorIndex := 1102, attributes := #[] }, { accessFlags := 26, nameIndex := 1121, descriptorIndex := 1122, attributes := #[] }, { accessFlags := 25, nameIndex := 599, descriptorIndex := 600, attributes := #[] }, { accessFlags := 24, nameIndex := 1125, descriptorIndex := 18, attributes := #[] }, { accessFlags := 24, nameIndex := 1127, descriptorIndex := 18, attributes := #[] }])
  fields := #[{ name := "value", type := (.array .byte), accessFlags := 18, slot := 0, constantValue := 0 }, { name := "coder", type := .byte, accessFlags := 18, slot := 1, constantValue := 0 }, { name := "hash", type := .int, accessFlags := 2, slot := 2, constantValue := 0 }, { name := "hashIsZero", type := .boolean, accessFlags := 2, slot := 3, constantValue := 0 }, { name := "serialVersionUID", type := .long, accessFlags := 26, slot := 0, constantValue := 0 }, { name := "COMPACT_STRINGS", type := .boolean, accessFlags := 24, slot := 1, constantValue := 0 }, { name := "serialPersistentFields", type := (.array (.object "java/io/ObjectStreamField")), accessFlags := 26, slot := 2, constantValue := 0 }, { name := "REPL", type := .char, accessFlags := 26, slot := 3, constantValue := 0 }, { name := "CASE_INSENSITIVE_ORDER", type := (.object "java/util/Comparator"), accessFlags := 25, slot := 4, constantValue := 0 }, { name := "LATIN1", type := .byte, accessFlags := 24, slot := 5, constantValue := 0 }, { name := "UTF16", type := .byte, accessFlags := 24, slot := 6, constantValue := 0 }]
  methods := #[k9m0, k9m1, k9m2, k9m3]
  instanceTypes := #[(.array .byte), .byte, .int, .boolean]
  staticTypes := #[.long, .boolean, (.array (.object "java/io/ObjectStreamField")), .char, (.object "java/util/Comparator"), .byte, .byte]
  resolved := Array.replicate 1451 none
  statics := some 1 }

def pool10 : Array CpInfo := pool [(1, .methodref 2 3), (0, .class_ 4), (0, .nameAndType 5 6), (0, u "java/lang/Object"), (0, u "<init>"), (0, u "()V"), (0, .class_ 8), (0, u "java/lang/Record")] 13

def k10c0 : Code := { maxStack := 1, maxLocals := 1, code := jdk_30_method_1_code, exceptionTable := #[], attributes := #[] }
def k10m0 : Method := { name := "<init>", desc := "()V", sig := { parameters := [], returnType := none }, accessFlags := 4, code := some k10c0 }
/-- java/lang/Record -/
def k10 : Class := { plain "java/lang/Record" (some 0) with
  accessFlags := 1057
  interfaces := #[]
  cf := some (fileOf pool10 7 #[] #[{ accessFlags := 4, nameIndex := 5, descriptorIndex := 6, attributes := #[] }] 1057 2 #[] #[])
  fields := #[]
  methods := #[k10m0]
  instanceTypes := #[]
  staticTypes := #[]
  resolved := Array.replicate 22 none
  statics := none }

def pool11 : Array CpInfo := pool [(1, .methodref 2 3), (0, .class_ 4), (0, .nameAndType 5 6), (0, u "java/lang/Record"), (0, u "<init>"), (0, u "()V"), (0, .fieldref 8 9), (0, .class_ 10), (0, .nameAndType 11 12), (0, u "com/example/quittance/quittance/Amount"), (0, u "cents"), (0, u "J"), (8, u "REQUEST_FORM"), (0, u "Ljava/util/regex/Pattern;"), (51, u "(J)V"), (36, u "()J"), (58, u "ZERO"), (0, u "Lcom/example/quittance/quittance/Amount;"), (6, u "LIMIT_WHOLE_DIGITS"), (0, u "I"), (2, u "LIMIT_CENTS"), (0, u "PAST_LIMIT"), (0, u "Ljava/lang/String;")] 45

def k11c0 : Code := { maxStack := 3, maxLocals := 3, code := prog_2_method_1_code, exceptionTable := #[], attributes := #[] }
def k11m0 : Method := { name := "<init>", desc := "(J)V", sig := { parameters := [.long], returnType := none }, accessFlags := 1, code := some k11c0 }
def k11c1 : Code := { maxStack := 2, maxLocals := 1, code := prog_2_method_14_code, exceptionTable := #[], attributes := #[] }
def k11m1 : Method := { name := "cents", desc := "()J", sig := { parameters := [], returnType := some .long }, accessFlags := 1, code := some k11c1 }
/-- com/example/quittance/quittance/Amount -/
def k11 : Class := { plain "com/example/quittance/quittance/Amount" (some 10) with
  accessFlags := 49
  interfaces := #[]
  cf := some (fileOf pool11 8 #[] #[{ accessFlags := 1, nameIndex := 5, descriptorIndex := 74, attributes := #[] }, { accessFlags := 1, nameIndex := 11, descriptorIndex := 111, attributes := #[] }] 49 2 #[] #[{ accessFlags := 18, nameIndex := 11, descriptorIndex := 12, attributes := #[] }, { accessFlags := 25, nameIndex := 170, descriptorIndex := 171, attributes := #[] }, { accessFlags := 26, nameIndex := 178, descriptorIndex := 179, attributes := #[] }, { accessFlags := 26, nameIndex := 182, descriptorIndex := 12, attributes := #[] }, { accessFlags := 26, nameIndex := 183, descriptorIndex := 184, attributes := #[] }, { accessFlags := 26, nameIndex := 21, descriptorIndex := 22, attributes := #[] }])
  fields := #[{ name := "cents", type := .long, accessFlags := 18, slot := 0, constantValue := 0 }, { name := "ZERO", type := (.object "com/example/quittance/quittance/Amount"), accessFlags := 25, slot := 0, constantValue := 0 }, { name := "LIMIT_WHOLE_DIGITS", type := .int, accessFlags := 26, slot := 1, constantValue := 0 }, { name := "LIMIT_CENTS", type := .long, accessFlags := 26, slot := 2, constantValue := 0 }, { name := "PAST_LIMIT", type := (.object "java/lang/String"), accessFlags := 26, slot := 3, constantValue := 0 }, { name := "REQUEST_FORM", type := (.object "java/util/regex/Pattern"), accessFlags := 26, slot := 4, constantValue := 0 }]
  methods := #[k11m0, k11m1]
  instanceTypes := #[.long]
  staticTypes := #[(.object "com/example/quittance/quittance/Amount"), .int, .long, (.object "java/lang/String"), (.object "java/util/regex/Pattern")]
  resolved := Array.replicate 230 none
  statics := none }

def pool12 : Array CpInfo := pool [(1, .methodref 2 3), (0, .class_ 4), (0, .nameAndType 5 6), (0, u "java/lang/Record"), (0, u "<init>"), (0, u "()V"), (0, .fieldref 8 9), (0, .class_ 10), (0, .nameAndType 11 12), (0, u "com/example/quittance/quittance/AuditEntry"), (0, u "action"), (0, u "Lcom/example/quittance/quittance/AuditEntry$Action;"), (0, .fieldref 8 14), (0, .nameAndType 15 16), (0, u "document"), (0, u "Ljava/lang/String;"), (0, .fieldref 8 18), (0, .nameAndType 19 16), (0, u "invoice"), (0, .fieldref 8 21), (0, .nameAndType 22 23), (0, u "amount"), (0, u "Lcom/example/quittance/quittance/Amount;"), (0, .fieldref 8 25), (0, .nameAndType 26 16), (0, u "reasonCode"), (0, .methodref 8 28), (0, .nameAndType 5 29), (0, u "(Lcom/example/quittance/quittance/AuditEntry$Action;Ljava/lang/String;Ljava/lang/String;Lcom/example/quittance/quittance/Amount;Ljava/lang/String;)V"), (17, u "withInvoice"), (0, u "(Ljava/lang/String;)Lcom/example/quittance/quittance/AuditEntry;"), (3, u "()Ljava/lang/String;"), (2, u "()Lcom/example/quittance/quittance/AuditEntry$Action;"), (0, u "()Lcom/example/quittance/quittance/Amount;"), (3, .class_ 61), (0, u "com/example/quittance/quittance/AuditEntry$Action")] 23

def k12c0 : Code := { maxStack := 2, maxLocals := 6, code := prog_3_method_1_code, exceptionTable := #[], attributes := #[] }
def k12m0 : Method := { name := "<init>", desc := "(Lcom/example/quittance/quittance/AuditEntry$Action;Ljava/lang/String;Ljava/lang/String;Lcom/example/quittance/quittance/Amount;Ljava/lang/String;)V", sig := { parameters := [(.object "com/example/quittance/quittance/AuditEntry$Action"), (.object "java/lang/String"), (.object "java/lang/String"), (.object "com/example/quittance/quittance/Amount"), (.object "java/lang/String")], returnType := none }, accessFlags := 0, code := some k12c0 }
def k12c1 : Code := { maxStack := 7, maxLocals := 2, code := prog_3_method_3_code, exceptionTable := #[], attributes := #[] }
def k12m1 : Method := { name := "withInvoice", desc := "(Ljava/lang/String;)Lcom/example/quittance/quittance/AuditEntry;", sig := { parameters := [(.object "java/lang/String")], returnType := some (.object "com/example/quittance/quittance/AuditEntry") }, accessFlags := 0, code := some k12c1 }
def k12c2 : Code := { maxStack := 1, maxLocals := 1, code := prog_3_method_9_code, exceptionTable := #[], attributes := #[] }
def k12m2 : Method := { name := "action", desc := "()Lcom/example/quittance/quittance/AuditEntry$Action;", sig := { parameters := [], returnType := some (.object "com/example/quittance/quittance/AuditEntry$Action") }, accessFlags := 1, code := some k12c2 }
def k12c3 : Code := { maxStack := 1, maxLocals := 1, code := prog_3_method_10_code, exceptionTable := #[], attributes := #[] }
def k12m3 : Method := { name := "document", desc := "()Ljava/lang/String;", sig := { parameters := [], returnType := some (.object "java/lang/String") }, accessFlags := 1, code := some k12c3 }
def k12c4 : Code := { maxStack := 1, maxLocals := 1, code := prog_3_method_11_code, exceptionTable := #[], attributes := #[] }
def k12m4 : Method := { name := "invoice", desc := "()Ljava/lang/String;", sig := { parameters := [], returnType := some (.object "java/lang/String") }, accessFlags := 1, code := some k12c4 }
def k12c5 : Code := { maxStack := 1, maxLocals := 1, code := prog_3_method_12_code, exceptionTable := #[], attributes := #[] }
def k12m5 : Method := { name := "amount", desc := "()Lcom/example/quittance/quittance/Amount;", sig := { parameters := [], returnType := some (.object "com/example/quittance/quittance/Amount") }, accessFlags := 1, code := some k12c5 }
def k12c6 : Code := { maxStack := 1, maxLocals := 1, code := prog_3_method_13_code, exceptionTable := #[], attributes := #[] }
def k12m6 : Method := { name := "reasonCode", desc := "()Ljava/lang/String;", sig := { parameters := [], returnType := some (.object "java/lang/String") }, accessFlags := 1, code := some k12c6 }
/-- com/example/quittance/quittance/AuditEntry -/
def k12 : Class := { plain "com/example/quittance/quittance/AuditEntry" (some 10) with
  accessFlags := 48
  interfaces := #[]
  cf := some (fileOf pool12 8 #[.nestMembers #[60]] #[{ accessFlags := 0, nameIndex := 5, descriptorIndex := 29, attributes := #[] }, { accessFlags := 0, nameIndex := 47, descriptorIndex := 48, attributes := #[] }, { accessFlags := 1, nameIndex := 11, descriptorIndex := 55, attributes := #[] }, { accessFlags := 1, nameIndex := 15, descriptorIndex := 52, attributes := #[] }, { accessFlags := 1, nameIndex := 19, descriptorIndex := 52, attributes := #[] }, { accessFlags := 1, nameIndex := 22, descriptorIndex := 56, attributes := #[] }, { accessFlags := 1, nameIndex := 26, descriptorIndex := 52, attributes := #[] }] 48 2 #[] #[{ accessFlags := 18, nameIndex := 11, descriptorIndex := 12, attributes := #[] }, { accessFlags := 18, nameIndex := 15, descriptorIndex := 16, attributes := #[] }, { accessFlags := 18, nameIndex := 19, descriptorIndex := 16, attributes := #[] }, { accessFlags := 18, nameIndex := 22, descriptorIndex := 23, attributes := #[] }, { accessFlags := 18, nameIndex := 26, descriptorIndex := 16, attributes := #[] }])
  fields := #[{ name := "action", type := (.object "com/example/quittance/quittance/AuditEntry$Action"), accessFlags := 18, slot := 0, constantValue := 0 }, { name := "document", type := (.object "java/lang/String"), accessFlags := 18, slot := 1, constantValue := 0 }, { name := "invoice", type := (.object "java/lang/String"), accessFlags := 18, slot := 2, constantValue := 0 }, { name := "amount", type := (.object "com/example/quittance/quittance/Amount"), accessFlags := 18, slot := 3, constantValue := 0 }, { name := "reasonCode", type := (.object "java/lang/String"), accessFlags := 18, slot := 4, constantValue := 0 }]
  methods := #[k12m0, k12m1, k12m2, k12m3, k12m4, k12m5, k12m6]
  instanceTypes := #[(.object "com/example/quittance/quittance/AuditEntry$Action"), (.object "java/lang/String"), (.object "java/lang/String"), (.object "com/example/quittance/quittance/Amount"), (.object "java/lang/String")]
  staticTypes := #[]
  resolved := Array.replicate 85 none
  statics := none }

def pool13 : Array CpInfo := pool [(6, .class_ 8), (1, u "java/lang/Object"), (0, u "<init>"), (0, u "()V"), (1, .class_ 14), (1, u "java/lang/StringUTF16"), (31, u "$assertionsDisabled"), (0, u "Z"), (13, u "HI_BYTE_SHIFT"), (0, u "I"), (2, u "LO_BYTE_SHIFT"), (49, .methodref 12 116), (0, .nameAndType 117 118), (0, u "compress"), (0, u "([CI[BII)I"), (3, u "([CII)[B"), (138, u "coderFromArrayLen"), (0, u "([BI)B"), (106, .class_ 371), (1, u "java/lang/StringUTF16$LinesSpliterator"), (58, u "MAX_LENGTH"), (196, .class_ 628), (0, u "java/lang/StringUTF16$CodePointsSpliterator"), (0, .class_ 630), (0, u "java/lang/StringUTF16$CharsSpliterator")] 4

def k13m0 : Method := { name := "<init>", desc := "()V", sig := { parameters := [], returnType := none }, accessFlags := 0, code := none }
def k13c1 : Code := { maxStack := 2, maxLocals := 2, code := jdk_52_method_15_code, exceptionTable := #[], attributes := #[] }
def k13m1 : Method := { name := "coderFromArrayLen", desc := "([BI)B", sig := { parameters := [(.array .byte), .int], returnType := some .byte }, accessFlags := 8, code := some k13c1 }
def k13c2 : Code := { maxStack := 5, maxLocals := 6, code := jdk_52_method_16_code, exceptionTable := #[], attributes := #[] }
def k13m2 : Method := { name := "compress", desc := "([CII)[B", sig := { parameters := [(.array .char), .int, .int], returnType := some (.array .byte) }, accessFlags := 9, code := some k13c2 }
def k13c3 : Code := { maxStack := 3, maxLocals := 7, code := jdk_52_method_21_code, exceptionTable := #[], attributes := #[] }
def k13m3 : Method := { name := "compress", desc := "([CI[BII)I", sig := { parameters := [(.array .char), .int, (.array .byte), .int, .int], returnType := some .int }, accessFlags := 9, code := some k13c3 }
/-- java/lang/StringUTF16 -/
def k13 : Class := { plain "java/lang/StringUTF16" (some 0) with
  accessFlags := 48
  interfaces := #[]
  cf := some (fileOf pool13 12 #[.nestMembers #[627, 629, 369]] #[{ accessFlags := 0, nameIndex := 9, descriptorIndex := 10, attributes := #[] }, { accessFlags := 8, nameIndex := 261, descriptorIndex := 262, attributes := #[] }, { accessFlags := 9, nameIndex := 117, descriptorIndex := 122, attributes := #[] }, { accessFlags := 9, nameIndex := 117, descriptorIndex := 118, attributes := #[] }] 48 6 #[] #[{ accessFlags := 26, nameIndex := 61, descriptorIndex := 62, attributes := #[] }, { accessFlags := 26, nameIndex := 65, descriptorIndex := 62, attributes := #[] }, { accessFlags := 24, nameIndex := 430, descriptorIndex := 62, attributes := #[] }, { accessFlags := 4120, nameIndex := 46, descriptorIndex := 47, attributes := #[] }])
  fields := #[{ name := "HI_BYTE_SHIFT", type := .int, accessFlags := 26, slot := 0, constantValue := 0 }, { name := "LO_BYTE_SHIFT", type := .int, accessFlags := 26, slot := 1, constantValue := 0 }, { name := "MAX_LENGTH", type := .int, accessFlags := 24, slot := 2, constantValue := 0 }, { name := "$assertionsDisabled", type := .boolean, accessFlags := 4120, slot := 3, constantValue := 0 }]
  methods := #[k13m0, k13m1, k13m2, k13m3]
  instanceTypes := #[]
  staticTypes := #[.int, .int, .int, .boolean]
  resolved := Array.replicate 635 none
  statics := none }

def pool14 : Array CpInfo := pool [(4, .class_ 6), (1, u "java/lang/Object"), (0, u "<init>"), (0, u "()V"), (5, .class_ 16), (1, u "java/lang/StringLatin1"), (104, u "$assertionsDisabled"), (0, u "Z"), (98, .class_ 223), (1, u "java/lang/StringLatin1$LinesSpliterator"), (166, .class_ 391), (0, u "java/lang/StringLatin1$CharsSpliterator")] 3

def k14m0 : Method := { name := "<init>", desc := "()V", sig := { parameters := [], returnType := none }, accessFlags := 0, code := none }
/-- java/lang/StringLatin1 -/
def k14 : Class := { plain "java/lang/StringLatin1" (some 0) with
  accessFlags := 48
  interfaces := #[]
  cf := some (fileOf pool14 14 #[.nestMembers #[390, 221]] #[{ accessFlags := 0, nameIndex := 7, descriptorIndex := 8, attributes := #[] }] 48 4 #[] #[{ accessFlags := 4120, nameIndex := 121, descriptorIndex := 122, attributes := #[] }])
  fields := #[{ name := "$assertionsDisabled", type := .boolean, accessFlags := 4120, slot := 0, constantValue := 0 }]
  methods := #[k14m0]
  instanceTypes := #[]
  staticTypes := #[.boolean]
  resolved := Array.replicate 395 none
  statics := none }

def pool15 : Array CpInfo := pool [(2, .class_ 4), (1, u "java/lang/Object"), (0, u "<init>"), (0, u "()V"), (17, .class_ 26), (1, u "jdk/internal/util/Preconditions"), (28, .class_ 56), (0, u "jdk/internal/util/Preconditions$4"), (57, .class_ 115), (0, u "jdk/internal/util/Preconditions$1"), (7, u "SIOOBE_FORMATTER"), (0, u "Ljava/util/function/BiFunction;"), (0, .class_ 126), (0, u "jdk/internal/util/Preconditions$2"), (3, u "AIOOBE_FORMATTER"), (0, .class_ 132), (0, u "jdk/internal/util/Preconditions$3"), (3, u "IOOBE_FORMATTER")] 57

def k15m0 : Method := { name := "<init>", desc := "()V", sig := { parameters := [], returnType := none }, accessFlags := 1, code := none }
/-- jdk/internal/util/Preconditions -/
def k15 : Class := { plain "jdk/internal/util/Preconditions" (some 0) with
  accessFlags := 33
  interfaces := #[]
  cf := some (fileOf pool15 24 #[.nestMembers #[55, 131, 125, 114]] #[{ accessFlags := 1, nameIndex := 5, descriptorIndex := 6, attributes := #[] }] 33 2 #[] #[{ accessFlags := 25, nameIndex := 123, descriptorIndex := 124, attributes := #[] }, { accessFlags := 25, nameIndex := 130, descriptorIndex := 124, attributes := #[] }, { accessFlags := 25, nameIndex := 136, descriptorIndex := 124, attributes := #[] }])
  fields := #[{ name := "SIOOBE_FORMATTER", type := (.object "java/util/function/BiFunction"), accessFlags := 25, slot := 0, constantValue := 0 }, { name := "AIOOBE_FORMATTER", type := (.object "java/util/function/BiFunction"), accessFlags := 25, slot := 1, constantValue := 0 }, { name := "IOOBE_FORMATTER", type := (.object "java/util/function/BiFunction"), accessFlags := 25, slot := 2, constantValue := 0 }]
  methods := #[k15m0]
  instanceTypes := #[]
  staticTypes := #[(.object "java/util/function/BiFunction"), (.object "java/util/function/BiFunction"), (.object "java/util/function/BiFunction")]
  resolved := Array.replicate 194 none
  statics := some 2 }

def pool16 : Array CpInfo := pool [(9, u "<init>"), (6, .class_ 18), (1, u "java/lang/Object"), (0, u "()V"), (1, .class_ 23), (1, u "jdk/internal/util/ArraysSupport"), (0, u "LOG2_ARRAY_LONG_INDEX_SCALE"), (0, u "I"), (2, u "U"), (0, u "Ljdk/internal/misc/Unsafe;"), (8, u "BIG_ENDIAN"), (0, u "Z"), (8, u "LOG2_BYTE_BIT_SIZE"), (4, u "LOG2_ARRAY_INT_INDEX_SCALE"), (54, u "JLA"), (0, u "Ljdk/internal/access/JavaLangAccess;"), (11, u "LOG2_ARRAY_BOOLEAN_INDEX_SCALE"), (9, u "LOG2_ARRAY_BYTE_INDEX_SCALE"), (5, u "LOG2_ARRAY_CHAR_INDEX_SCALE"), (5, u "LOG2_ARRAY_SHORT_INDEX_SCALE"), (18, u "LOG2_ARRAY_FLOAT_INDEX_SCALE"), (24, u "LOG2_ARRAY_DOUBLE_INDEX_SCALE"), (89, u "T_BOOLEAN"), (2, u "T_CHAR"), (1, u "T_FLOAT"), (1, u "T_DOUBLE"), (1, u "T_BYTE"), (1, u "T_SHORT"), (1, u "T_INT"), (1, u "T_LONG"), (1, u "SOFT_MAX_ARRAY_LENGTH")] 83

def k16m0 : Method := { name := "<init>", desc := "()V", sig := { parameters := [], returnType := none }, accessFlags := 2, code := none }
/-- jdk/internal/util/ArraysSupport -/
def k16 : Class := { plain "jdk/internal/util/ArraysSupport" (some 0) with
  accessFlags := 33
  interfaces := #[]
  cf := some (fileOf pool16 21 #[] #[{ accessFlags := 2, nameIndex := 9, descriptorIndex := 19, attributes := #[] }] 33 16 #[] #[{ accessFlags := 24, nameIndex := 28, descriptorIndex := 29, attributes := #[] }, { accessFlags := 26, nameIndex := 38, descriptorIndex := 39, attributes := #[] }, { accessFlags := 25, nameIndex := 121, descriptorIndex := 25, attributes := #[] }, { accessFlags := 25, nameIndex := 131, descriptorIndex := 25, attributes := #[] }, { accessFlags := 25, nameIndex := 137, descriptorIndex := 25, attributes := #[] }, { accessFlags := 25, nameIndex := 143, descriptorIndex := 25, attributes := #[] }, { accessFlags := 25, nameIndex := 53, descriptorIndex := 25, attributes := #[] }, { accessFlags := 25, nameIndex := 24, descriptorIndex := 25, attributes := #[] }, { accessFlags := 25, nameIndex := 162, descriptorIndex := 25, attributes := #[] }, { accessFlags := 25, nameIndex := 187, descriptorIndex := 25, attributes := #[] }, { accessFlags := 26, nameIndex := 48, descriptorIndex := 25, attributes := #[] }, { accessFlags := 25, nameIndex := 277, descriptorIndex := 25, attributes := #[] }, { accessFlags := 25, nameIndex := 280, descriptorIndex := 25, attributes := #[] }, { accessFlags := 25, nameIndex := 282, descriptorIndex := 25, attributes := #[] }, { accessFlags := 25, nameIndex := 284, descriptorIndex := 25, attributes := #[] }, { accessFlags := 25, nameIndex := 286, descriptorIndex := 25, attributes := #[] }, { accessFlags := 25, nameIndex := 288, descriptorIndex := 25, attributes := #[] }, { accessFlags := 25, nameIndex := 290, descriptorIndex := 25, attributes := #[] }, { accessFlags := 25, nameIndex := 292, descriptorIndex := 25, attributes := #[] }, { accessFlags := 26, nameIndex := 108, descriptorIndex := 109, attributes := #[] }, { accessFlags := 25, nameIndex := 294, descriptorIndex := 25, attributes := #[] }])
  fields := #[{ name := "U", type := (.object "jdk/internal/misc/Unsafe"), accessFlags := 24, slot := 0, constantValue := 0 }, { name := "BIG_ENDIAN", type := .boolean, accessFlags := 26, slot := 1, constantValue := 0 }, { name := "LOG2_ARRAY_BOOLEAN_INDEX_SCALE", type := .int, accessFlags := 25, slot := 2, constantValue := 0 }, { name := "LOG2_ARRAY_BYTE_INDEX_SCALE", type := .int, accessFlags := 25, slot := 3, constantValue := 0 }, { name := "LOG2_ARRAY_CHAR_INDEX_SCALE", type := .int, accessFlags := 25, slot := 4, constantValue := 0 }, { name := "LOG2_ARRAY_SHORT_INDEX_SCALE", type := .int, accessFlags := 25, slot := 5, constantValue := 0 }, { name := "LOG2_ARRAY_INT_INDEX_SCALE", type := .int, accessFlags := 25, slot := 6, constantValue := 0 }, { name := "LOG2_ARRAY_LONG_INDEX_SCALE", type := .int, accessFlags := 25, slot := 7, constantValue := 0 }, { name := "LOG2_ARRAY_FLOAT_INDEX_SCALE", type := .int, accessFlags := 25, slot := 8, constantValue := 0 }, { name := "LOG2_ARRAY_DOUBLE_INDEX_SCALE", type := .int, accessFlags := 25, slot := 9, constantValue := 0 }, { name := "LOG2_BYTE_BIT_SIZE", type := .int, accessFlags := 26, slot := 10, constantValue := 0 }, { name := "T_BOOLEAN", type := .int, accessFlags := 25, slot := 11, constantValue := 0 }, { name := "T_CHAR", type := .int, accessFlags := 25, slot := 12, constantValue := 0 }, { name := "T_FLOAT", type := .int, accessFlags := 25, slot := 13, constantValue := 0 }, { name := "T_DOUBLE", type := .int, accessFlags := 25, slot := 14, constantValue := 0 }, { name := "T_BYTE", type := .int, accessFlags := 25, slot := 15, constantValue := 0 }, { name := "T_SHORT", type := .int, accessFlags := 25, slot := 16, constantValue := 0 }, { name := "T_INT", type := .int, accessFlags := 25, slot := 17, constantValue := 0 }, { name := "T_LONG", type := .int, accessFlags := 25, slot := 18, constantValue := 0 }, { name := "JLA", type := (.object "jdk/internal/access/JavaLangAccess"), accessFlags := 26, slot := 19, constantValue := 0 }, { name := "SOFT_MAX_ARRAY_LENGTH", type := .int, accessFlags := 25, slot := 20, constantValue := 0 }]
  methods := #[k16m0]
  instanceTypes := #[]
  staticTypes := #[(.object "jdk/internal/misc/Unsafe"), .boolean, .int, .int, .int, .int, .int, .int, .int, .int, .int, .int, .int, .int, .int, .int, .int, .int, .int, (.object "jdk/internal/access/JavaLangAccess"), .int]
  resolved := Array.replicate 378 none
  statics := none }

def pool17 : Array CpInfo := pool [(1, u "java/lang/Cloneable"), (0, .class_ 1), (0, u "java/lang/Object"), (0, .class_ 3)] 3

/-- java/lang/Cloneable -/
def k17 : Class := { plain "java/lang/Cloneable" (some 0) with
  accessFlags := 1537
  interfaces := #[]
  cf := some (fileOf pool17 2 #[] #[] 1537 4 #[] #[])
  fields := #[]
  methods := #[]
  instanceTypes := #[]
  staticTypes := #[]
  resolved := Array.replicate 8 none
  statics := none }

/-- the primitive byte -/
def k18 : Class := { plain "byte" none with kind := .primitive 'B', accessFlags := 0x411 }
/-- [B -/
def k19 : Class := { plain "[B" (some 0) with kind := .array 18 .byte, interfaces := #[17, 4], accessFlags := 1041 }

/-- the primitive char -/
def k20 : Class := { plain "char" none with kind := .primitive 'C', accessFlags := 0x411 }
/-- [C -/
def k21 : Class := { plain "[C" (some 0) with kind := .array 20 .char, interfaces := #[17, 4], accessFlags := 1041 }

/-- the primitive int -/
def k22 : Class := { plain "int" none with kind := .primitive 'I', accessFlags := 0x411 }
/-- [I -/
def k23 : Class := { plain "[I" (some 0) with kind := .array 22 .int, interfaces := #[17, 4], accessFlags := 1041 }

def heap : Heap := #[{ cls := 6, slots := #[.ref 3, .ref 4, .ref 5, .ref 6, .ref 7, .ref 8, .ref 9, .ref 10, .ref 11, .ref 12, .ref 13, .ref 14, .ref 15, .ref 16, .null], vm := .statics 6 },
  { cls := 9, slots := #[.long 0, .int 1, .null, .int 0, .null, .int 0, .int 0], vm := .statics 9 },
  { cls := 15, slots := #[.null, .null, .null], vm := .statics 15 },
  { cls := 6, slots := #[.null, .int 0, .int 0], vm := .none },
  { cls := 6, slots := #[.null, .int 0, .int 0], vm := .none },
  { cls := 6, slots := #[.null, .int 0, .int 0], vm := .none },
  { cls := 6, slots := #[.null, .int 0, .int 0], vm := .none },
  { cls := 6, slots := #[.null, .int 0, .int 0], vm := .none },
  { cls := 6, slots := #[.null, .int 0, .int 0], vm := .none },
  { cls := 6, slots := #[.null, .int 0, .int 0], vm := .none },
  { cls := 6, slots := #[.null, .int 0, .int 0], vm := .none },
  { cls := 6, slots := #[.null, .int 0, .int 0], vm := .none },
  { cls := 6, slots := #[.null, .int 0, .int 0], vm := .none },
  { cls := 6, slots := #[.null, .int 0, .int 0], vm := .none },
  { cls := 6, slots := #[.null, .int 0, .int 0], vm := .none },
  { cls := 6, slots := #[.null, .int 0, .int 0], vm := .none },
  { cls := 6, slots := #[.null, .int 0, .int 0], vm := .none }]
def classes : Array Class := #[k0, k1, k2, k3, k4, k5, k6, k7, k8, k9, k10, k11, k12, k13, k14, k15, k16, k17, k18, k19, k20, k21, k22, k23]
def interned : List (Array UInt16 × Addr) := []
def slotsUsed : Nat := 67
def theMethod : MethodId := ⟨1, 1⟩
def args0 : Array Value := #[.int 5, .int 3, .int 65, .long 7, .int 9, .int 0]
def aboutOver (below : List Frame) : State where
  vm := { classes := classes, interned := interned.toArray }
  heap := heap
  slotsUsed := slotsUsed
  threads := #[{ frames := .invoking theMethod args0 :: below }]
def below0 : List Frame := [.native { method := ⟨0, 0⟩, args := #[] }]
def about1 : State := aboutOver below0
def p0 : Program := .bare "" "" ""
def e0 : Env := launch0.env 0 0 0
theorem w_frames : about1.frames = Frame.invoking theMethod args0 :: below0 := rfl
set_option maxRecDepth 65536 in
theorem w_args : argsFit about1.vm theMethod args0 = true := by decide +kernel
set_option maxRecDepth 65536 in
theorem w_heap : heapFits about1 = true := by decide +kernel
set_option maxRecDepth 65536 in
theorem w_runnable : about1.curStatus? = some .runnable := by decide +kernel
set_option maxRecDepth 65536 in
theorem w_alone : about1.alone = true := by decide +kernel
set_option maxRecDepth 65536 in
theorem w_named : about1.methodNamed? x = some theMethod := by decide +kernel
set_option maxRecDepth 65536 in
theorem w_hears : about1.hears theMethod below0 = true := by decide +kernel
set_option maxRecDepth 65536 in
theorem w_ripe : about1.ripe theMethod args0 below0 = true := by decide +kernel
theorem w_running : about1.status = .running := rfl
set_option maxRecDepth 65536 in
theorem w_room : about1.hasRoom e0.platform room_1 = true :=
  launch0.hasRoom_least _ room_1 (by decide +kernel) (by decide +kernel) (by decide +kernel) (by decide +kernel) (by decide +kernel) (by decide +kernel)
theorem allAtoms_all (ts : List Jvm.Cond) (a : Array Jvm.Value) (st : Jvm.State) : (allAtoms ts).before a st = ts.all (fun c => c.before a st) := by
  induction ts with
  | nil => rfl
  | cons c t ih =>
    show (Jvm.Cond.and c (allAtoms t)).before a st = _
    rw [Jvm.Cond.before_and, ih, List.all_cons]
def words1 : List Jvm.Cond := Jvm.Cond.code x code maxLocals ret :: tables_1
/-- a 'code' word, met by the world's own term for the bytes: nothing is compared byte by byte -/
theorem code_word {y : MethodName} {bytes : ByteArray} {mx : Nat} {rt : Option FieldType} {a : Array Value} {s : State} {m : MethodId} {meth : Method} {c : Code} (h1 : s.methodNamed? y = some m) (h2 : s.vm.method? m = some meth) (h3 : meth.code = some c) (h4 : c.code = bytes)
    (h5 : (c.maxLocals == mx && c.exceptionTable.isEmpty && decide (c.maxStack ≤ mostOperands) && decide (meth.sig.returnType = rt) && !meth.locks && decide (parseMethodDescriptor y.desc = some meth.sig)) = true) : (Jvm.Cond.code y bytes mx rt).before a s = true := by
  simp only [Bool.and_eq_true, beq_iff_eq, Bool.not_eq_true', decide_eq_true_eq] at h5
  obtain ⟨⟨⟨⟨⟨g1, g2⟩, g3⟩, g4⟩, g5⟩, g6⟩ := h5
  simp [Cond.before, Cond.holds, Cond.value, h1, h2, h3, h4, g1, g2, g3, g4, g5, g6]
def isCode : Jvm.Cond → Bool
  | .code _ _ _ _ => true
  | _ => false
theorem all_split {L : List Jvm.Cond} {P : Jvm.Cond → Bool} (h1 : L.all (fun c => isCode c || P c) = true) (h2 : ∀ c ∈ L.filter isCode, P c = true) : L.all P = true := by
  refine List.all_eq_true.mpr fun c hc => ?_
  have h := List.all_eq_true.mp h1 c hc
  rcases Bool.eq_false_or_eq_true (isCode c) with hi | hi
  · exact h2 c (List.mem_filter.mpr ⟨hc, hi⟩)
  · simpa [hi] using h
set_option maxRecDepth 65536 in
theorem w_c0 : (Jvm.Cond.code x code maxLocals ret).before args0 about1 = true := code_word (m := ⟨1, 1⟩) (meth := k1m1) (c := k1c1) (by decide +kernel) rfl rfl rfl (by decide +kernel)
set_option maxRecDepth 65536 in
theorem w_c1 : (Jvm.Cond.code ({ cls := "com/example/quittance/quittance/AuditEntryWithInvoicePinLaw", name := "action", desc := "(I)Lcom/example/quittance/quittance/AuditEntry$Action;" } : Jvm.MethodName) method_6_code (2 : Nat) (Option.some (Jvm.ClassFile.FieldType.object "com/example/quittance/quittance/AuditEntry$Action"))).before args0 about1 = true := code_word (m := ⟨1, 5⟩) (meth := k1m5) (c := k1c5) (by decide +kernel) rfl rfl rfl (by decide +kernel)
set_option maxRecDepth 65536 in
theorem w_c2 : (Jvm.Cond.code ({ cls := "com/example/quittance/quittance/AuditEntryWithInvoicePinLaw", name := "str", desc := "(IZ)Ljava/lang/String;" } : Jvm.MethodName) method_5_code (6 : Nat) (Option.some (Jvm.ClassFile.FieldType.object "java/lang/String"))).before args0 about1 = true := code_word (m := ⟨1, 4⟩) (meth := k1m4) (c := k1c4) (by decide +kernel) rfl rfl rfl (by decide +kernel)
set_option maxRecDepth 65536 in
theorem w_c3 : (Jvm.Cond.code ({ cls := "java/lang/String", name := "<init>", desc := "([C)V" } : Jvm.MethodName) jdk_42_method_3_code (2 : Nat) (Option.none : Option Jvm.ClassFile.FieldType)).before args0 about1 = true := code_word (m := ⟨9, 1⟩) (meth := k9m1) (c := k9c1) (by decide +kernel) rfl rfl rfl (by decide +kernel)
set_option maxRecDepth 65536 in
theorem w_c4 : (Jvm.Cond.code ({ cls := "java/lang/String", name := "<init>", desc := "([CIILjava/lang/Void;)V" } : Jvm.MethodName) jdk_42_method_149_code (6 : Nat) (Option.none : Option Jvm.ClassFile.FieldType)).before args0 about1 = true := code_word (m := ⟨9, 3⟩) (meth := k9m3) (c := k9c3) (by decide +kernel) rfl rfl rfl (by decide +kernel)
set_option maxRecDepth 65536 in
theorem w_c5 : (Jvm.Cond.code ({ cls := "java/lang/Object", name := "<init>", desc := "()V" } : Jvm.MethodName) object_method_1_code (1 : Nat) (Option.none : Option Jvm.ClassFile.FieldType)).before args0 about1 = true := code_word (m := ⟨0, 0⟩) (meth := k0m0) (c := k0c0) (by decide +kernel) rfl rfl rfl (by decide +kernel)
set_option maxRecDepth 65536 in
theorem w_c6 : (Jvm.Cond.code ({ cls := "com/example/quittance/quittance/Amount", name := "<init>", desc := "(J)V" } : Jvm.MethodName) prog_2_method_1_code (3 : Nat) (Option.none : Option Jvm.ClassFile.FieldType)).before args0 about1 = true := code_word (m := ⟨11, 0⟩) (meth := k11m0) (c := k11c0) (by decide +kernel) rfl rfl rfl (by decide +kernel)
set_option maxRecDepth 65536 in
theorem w_c7 : (Jvm.Cond.code ({ cls := "java/lang/Record", name := "<init>", desc := "()V" } : Jvm.MethodName) jdk_30_method_1_code (1 : Nat) (Option.none : Option Jvm.ClassFile.FieldType)).before args0 about1 = true := code_word (m := ⟨10, 0⟩) (meth := k10m0) (c := k10c0) (by decide +kernel) rfl rfl rfl (by decide +kernel)
set_option maxRecDepth 65536 in
theorem w_c8 : (Jvm.Cond.code ({ cls := "com/example/quittance/quittance/AuditEntry", name := "<init>", desc := "(Lcom/example/quittance/quittance/AuditEntry$Action;Ljava/lang/String;Ljava/lang/String;Lcom/example/quittance/quittance/Amount;Ljava/lang/String;)V" } : Jvm.MethodName) prog_3_method_1_code (6 : Nat) (Option.none : Option Jvm.ClassFile.FieldType)).before args0 about1 = true := code_word (m := ⟨12, 0⟩) (meth := k12m0) (c := k12c0) (by decide +kernel) rfl rfl rfl (by decide +kernel)
set_option maxRecDepth 65536 in
theorem w_c9 : (Jvm.Cond.code ({ cls := "com/example/quittance/quittance/AuditEntry", name := "withInvoice", desc := "(Ljava/lang/String;)Lcom/example/quittance/quittance/AuditEntry;" } : Jvm.MethodName) prog_3_method_3_code (2 : Nat) (Option.some (Jvm.ClassFile.FieldType.object "com/example/quittance/quittance/AuditEntry"))).before args0 about1 = true := code_word (m := ⟨12, 1⟩) (meth := k12m1) (c := k12c1) (by decide +kernel) rfl rfl rfl (by decide +kernel)
set_option maxRecDepth 65536 in
theorem w_c10 : (Jvm.Cond.code ({ cls := "com/example/quittance/quittance/AuditEntry", name := "action", desc := "()Lcom/example/quittance/quittance/AuditEntry$Action;" } : Jvm.MethodName) prog_3_method_9_code (1 : Nat) (Option.some (Jvm.ClassFile.FieldType.object "com/example/quittance/quittance/AuditEntry$Action"))).before args0 about1 = true := code_word (m := ⟨12, 2⟩) (meth := k12m2) (c := k12c2) (by decide +kernel) rfl rfl rfl (by decide +kernel)
set_option maxRecDepth 65536 in
theorem w_c11 : (Jvm.Cond.code ({ cls := "com/example/quittance/quittance/AuditEntry", name := "document", desc := "()Ljava/lang/String;" } : Jvm.MethodName) prog_3_method_10_code (1 : Nat) (Option.some (Jvm.ClassFile.FieldType.object "java/lang/String"))).before args0 about1 = true := code_word (m := ⟨12, 3⟩) (meth := k12m3) (c := k12c3) (by decide +kernel) rfl rfl rfl (by decide +kernel)
set_option maxRecDepth 65536 in
theorem w_c12 : (Jvm.Cond.code ({ cls := "com/example/quittance/quittance/AuditEntryWithInvoicePinLaw", name := "same", desc := "(Ljava/lang/String;Ljava/lang/String;)Z" } : Jvm.MethodName) method_3_code (2 : Nat) (Option.some Jvm.ClassFile.FieldType.boolean)).before args0 about1 = true := code_word (m := ⟨1, 2⟩) (meth := k1m2) (c := k1c2) (by decide +kernel) rfl rfl rfl (by decide +kernel)
set_option maxRecDepth 65536 in
theorem w_c13 : (Jvm.Cond.code ({ cls := "java/lang/String", name := "equals", desc := "(Ljava/lang/Object;)Z" } : Jvm.MethodName) jdk_42_method_66_code (3 : Nat) (Option.some Jvm.ClassFile.FieldType.boolean)).before args0 about1 = true := code_word (m := ⟨9, 2⟩) (meth := k9m2) (c := k9c2) (by decide +kernel) rfl rfl rfl (by decide +kernel)
set_option maxRecDepth 65536 in
theorem w_c14 : (Jvm.Cond.code ({ cls := "com/example/quittance/quittance/AuditEntry", name := "invoice", desc := "()Ljava/lang/String;" } : Jvm.MethodName) prog_3_method_11_code (1 : Nat) (Option.some (Jvm.ClassFile.FieldType.object "java/lang/String"))).before args0 about1 = true := code_word (m := ⟨12, 4⟩) (meth := k12m4) (c := k12c4) (by decide +kernel) rfl rfl rfl (by decide +kernel)
set_option maxRecDepth 65536 in
theorem w_c15 : (Jvm.Cond.code ({ cls := "com/example/quittance/quittance/AuditEntry", name := "amount", desc := "()Lcom/example/quittance/quittance/Amount;" } : Jvm.MethodName) prog_3_method_12_code (1 : Nat) (Option.some (Jvm.ClassFile.FieldType.object "com/example/quittance/quittance/Amount"))).before args0 about1 = true := code_word (m := ⟨12, 5⟩) (meth := k12m5) (c := k12c5) (by decide +kernel) rfl rfl rfl (by decide +kernel)
set_option maxRecDepth 65536 in
theorem w_c16 : (Jvm.Cond.code ({ cls := "com/example/quittance/quittance/AuditEntryWithInvoicePinLaw", name := "sameAmount", desc := "(Lcom/example/quittance/quittance/Amount;ZJ)Z" } : Jvm.MethodName) method_4_code (4 : Nat) (Option.some Jvm.ClassFile.FieldType.boolean)).before args0 about1 = true := code_word (m := ⟨1, 3⟩) (meth := k1m3) (c := k1c3) (by decide +kernel) rfl rfl rfl (by decide +kernel)
set_option maxRecDepth 65536 in
theorem w_c17 : (Jvm.Cond.code ({ cls := "com/example/quittance/quittance/Amount", name := "cents", desc := "()J" } : Jvm.MethodName) prog_2_method_14_code (1 : Nat) (Option.some Jvm.ClassFile.FieldType.long)).before args0 about1 = true := code_word (m := ⟨11, 1⟩) (meth := k11m1) (c := k11c1) (by decide +kernel) rfl rfl rfl (by decide +kernel)
set_option maxRecDepth 65536 in
theorem w_c18 : (Jvm.Cond.code ({ cls := "com/example/quittance/quittance/AuditEntry", name := "reasonCode", desc := "()Ljava/lang/String;" } : Jvm.MethodName) prog_3_method_13_code (1 : Nat) (Option.some (Jvm.ClassFile.FieldType.object "java/lang/String"))).before args0 about1 = true := code_word (m := ⟨12, 6⟩) (meth := k12m6) (c := k12c6) (by decide +kernel) rfl rfl rfl (by decide +kernel)
set_option maxRecDepth 65536 in
theorem w_c19 : (Jvm.Cond.code ({ cls := "java/lang/StringUTF16", name := "compress", desc := "([CII)[B" } : Jvm.MethodName) jdk_52_method_16_code (6 : Nat) (Option.some (Jvm.ClassFile.FieldType.array Jvm.ClassFile.FieldType.byte))).before args0 about1 = true := code_word (m := ⟨13, 2⟩) (meth := k13m2) (c := k13c2) (by decide +kernel) rfl rfl rfl (by decide +kernel)
set_option maxRecDepth 65536 in
theorem w_c20 : (Jvm.Cond.code ({ cls := "java/lang/StringUTF16", name := "compress", desc := "([CI[BII)I" } : Jvm.MethodName) jdk_52_method_21_code (7 : Nat) (Option.some Jvm.ClassFile.FieldType.int)).before args0 about1 = true := code_word (m := ⟨13, 3⟩) (meth := k13m3) (c := k13c3) (by decide +kernel) rfl rfl rfl (by decide +kernel)
set_option maxRecDepth 65536 in
theorem w_c21 : (Jvm.Cond.code ({ cls := "java/lang/StringUTF16", name := "coderFromArrayLen", desc := "([BI)B" } : Jvm.MethodName) jdk_52_method_15_code (2 : Nat) (Option.some Jvm.ClassFile.FieldType.byte)).before args0 about1 = true := code_word (m := ⟨13, 1⟩) (meth := k13m1) (c := k13c1) (by decide +kernel) rfl rfl rfl (by decide +kernel)
def codes1 : List Jvm.Cond := [Jvm.Cond.code x code maxLocals ret, Jvm.Cond.code ({ cls := "com/example/quittance/quittance/AuditEntryWithInvoicePinLaw", name := "action", desc := "(I)Lcom/example/quittance/quittance/AuditEntry$Action;" } : Jvm.MethodName) method_6_code (2 : Nat) (Option.some (Jvm.ClassFile.FieldType.object "com/example/quittance/quittance/AuditEntry$Action")), Jvm.Cond.code ({ cls := "com/example/quittance/quittance/AuditEntryWithInvoicePinLaw", name := "str", desc := "(IZ)Ljava/lang/String;" } : Jvm.MethodName) method_5_code (6 : Nat) (Option.some (Jvm.ClassFile.FieldType.object "java/lang/String")), Jvm.Cond.code ({ cls := "java/lang/String", name := "<init>", desc := "([C)V" } : Jvm.MethodName) jdk_42_method_3_code (2 : Nat) (Option.none : Option Jvm.ClassFile.FieldType), Jvm.Cond.code ({ cls := "java/lang/String", name := "<init>", desc := "([CIILjava/lang/Void;)V" } : Jvm.MethodName) jdk_42_method_149_code (6 : Nat) (Option.none : Option Jvm.ClassFile.FieldType), Jvm.Cond.code ({ cls := "java/lang/Object", name := "<init>", desc := "()V" } : Jvm.MethodName) object_method_1_code (1 : Nat) (Option.none : Option Jvm.ClassFile.FieldType), Jvm.Cond.code ({ cls := "com/example/quittance/quittance/Amount", name := "<init>", desc := "(J)V" } : Jvm.MethodName) prog_2_method_1_code (3 : Nat) (Option.none : Option Jvm.ClassFile.FieldType), Jvm.Cond.code ({ cls := "java/lang/Record", name := "<init>", desc := "()V" } : Jvm.MethodName) jdk_30_method_1_code (1 : Nat) (Option.none : Option Jvm.ClassFile.FieldType), Jvm.Cond.code ({ cls := "com/example/quittance/quittance/AuditEntry", name := "<init>", desc := "(Lcom/example/quittance/quittance/AuditEntry$Action;Ljava/lang/String;Ljava/lang/String;Lcom/example/quittance/quittance/Amount;Ljava/lang/String;)V" } : Jvm.MethodName) prog_3_method_1_code (6 : Nat) (Option.none : Option Jvm.ClassFile.FieldType), Jvm.Cond.code ({ cls := "com/example/quittance/quittance/AuditEntry", name := "withInvoice", desc := "(Ljava/lang/String;)Lcom/example/quittance/quittance/AuditEntry;" } : Jvm.MethodName) prog_3_method_3_code (2 : Nat) (Option.some (Jvm.ClassFile.FieldType.object "com/example/quittance/quittance/AuditEntry")), Jvm.Cond.code ({ cls := "com/example/quittance/quittance/AuditEntry", name := "action", desc := "()Lcom/example/quittance/quittance/AuditEntry$Action;" } : Jvm.MethodName) prog_3_method_9_code (1 : Nat) (Option.some (Jvm.ClassFile.FieldType.object "com/example/quittance/quittance/AuditEntry$Action")), Jvm.Cond.code ({ cls := "com/example/quittance/quittance/AuditEntry", name := "document", desc := "()Ljava/lang/String;" } : Jvm.MethodName) prog_3_method_10_code (1 : Nat) (Option.some (Jvm.ClassFile.FieldType.object "java/lang/String")), Jvm.Cond.code ({ cls := "com/example/quittance/quittance/AuditEntryWithInvoicePinLaw", name := "same", desc := "(Ljava/lang/String;Ljava/lang/String;)Z" } : Jvm.MethodName) method_3_code (2 : Nat) (Option.some Jvm.ClassFile.FieldType.boolean), Jvm.Cond.code ({ cls := "java/lang/String", name := "equals", desc := "(Ljava/lang/Object;)Z" } : Jvm.MethodName) jdk_42_method_66_code (3 : Nat) (Option.some Jvm.ClassFile.FieldType.boolean), Jvm.Cond.code ({ cls := "com/example/quittance/quittance/AuditEntry", name := "invoice", desc := "()Ljava/lang/String;" } : Jvm.MethodName) prog_3_method_11_code (1 : Nat) (Option.some (Jvm.ClassFile.FieldType.object "java/lang/String")), Jvm.Cond.code ({ cls := "com/example/quittance/quittance/AuditEntry", name := "amount", desc := "()Lcom/example/quittance/quittance/Amount;" } : Jvm.MethodName) prog_3_method_12_code (1 : Nat) (Option.some (Jvm.ClassFile.FieldType.object "com/example/quittance/quittance/Amount")), Jvm.Cond.code ({ cls := "com/example/quittance/quittance/AuditEntryWithInvoicePinLaw", name := "sameAmount", desc := "(Lcom/example/quittance/quittance/Amount;ZJ)Z" } : Jvm.MethodName) method_4_code (4 : Nat) (Option.some Jvm.ClassFile.FieldType.boolean), Jvm.Cond.code ({ cls := "com/example/quittance/quittance/Amount", name := "cents", desc := "()J" } : Jvm.MethodName) prog_2_method_14_code (1 : Nat) (Option.some Jvm.ClassFile.FieldType.long), Jvm.Cond.code ({ cls := "com/example/quittance/quittance/AuditEntry", name := "reasonCode", desc := "()Ljava/lang/String;" } : Jvm.MethodName) prog_3_method_13_code (1 : Nat) (Option.some (Jvm.ClassFile.FieldType.object "java/lang/String")), Jvm.Cond.code ({ cls := "java/lang/StringUTF16", name := "compress", desc := "([CII)[B" } : Jvm.MethodName) jdk_52_method_16_code (6 : Nat) (Option.some (Jvm.ClassFile.FieldType.array Jvm.ClassFile.FieldType.byte)), Jvm.Cond.code ({ cls := "java/lang/StringUTF16", name := "compress", desc := "([CI[BII)I" } : Jvm.MethodName) jdk_52_method_21_code (7 : Nat) (Option.some Jvm.ClassFile.FieldType.int), Jvm.Cond.code ({ cls := "java/lang/StringUTF16", name := "coderFromArrayLen", desc := "([BI)B" } : Jvm.MethodName) jdk_52_method_15_code (2 : Nat) (Option.some Jvm.ClassFile.FieldType.byte)]
set_option maxRecDepth 65536 in
theorem codes_eq : words1.filter isCode = codes1 := rfl
theorem w_codes : ∀ c ∈ words1.filter isCode, c.before args0 about1 = true := by
  rw [codes_eq]
  intro c hc
  simp only [codes1, List.mem_cons, List.not_mem_nil, or_false] at hc
  rcases hc with rfl | rfl | rfl | rfl | rfl | rfl | rfl | rfl | rfl | rfl | rfl | rfl | rfl | rfl | rfl | rfl | rfl | rfl | rfl | rfl | rfl | rfl
  · exact w_c0
  · exact w_c1
  · exact w_c2
  · exact w_c3
  · exact w_c4
  · exact w_c5
  · exact w_c6
  · exact w_c7
  · exact w_c8
  · exact w_c9
  · exact w_c10
  · exact w_c11
  · exact w_c12
  · exact w_c13
  · exact w_c14
  · exact w_c15
  · exact w_c16
  · exact w_c17
  · exact w_c18
  · exact w_c19
  · exact w_c20
  · exact w_c21
set_option maxRecDepth 65536 in
theorem w_t1 : (words1.take 24).all (fun c => isCode c || c.before args0 about1) = true := by decide +kernel
set_option maxRecDepth 65536 in
theorem w_t2 : ((words1.drop 24).take 24).all (fun c => isCode c || c.before args0 about1) = true := by decide +kernel
set_option maxRecDepth 65536 in
theorem w_t3 : (((words1.drop 24).drop 24).take 24).all (fun c => isCode c || c.before args0 about1) = true := by decide +kernel
set_option maxRecDepth 65536 in
theorem w_t4 : ((((words1.drop 24).drop 24).drop 24).take 24).all (fun c => isCode c || c.before args0 about1) = true := by decide +kernel
set_option maxRecDepth 65536 in
theorem w_t5 : (((((words1.drop 24).drop 24).drop 24).drop 24).take 24).all (fun c => isCode c || c.before args0 about1) = true := by decide +kernel
set_option maxRecDepth 65536 in
theorem w_t6 : ((((((words1.drop 24).drop 24).drop 24).drop 24).drop 24).take 24).all (fun c => isCode c || c.before args0 about1) = true := by decide +kernel
set_option maxRecDepth 65536 in
theorem w_t7 : ((((((words1.drop 24).drop 24).drop 24).drop 24).drop 24).drop 24).all (fun c => isCode c || c.before args0 about1) = true := by decide +kernel
theorem w_tables : (allAtoms (Jvm.Cond.code x code maxLocals ret :: tables_1)).before args0 about1 = true := by
  rw [allAtoms_all]
  show words1.all (fun c => c.before args0 about1) = true
  refine all_split ?_ w_codes
  rw [← List.take_append_drop 24 words1, List.all_append, w_t1, ← List.take_append_drop 24 (words1.drop 24), List.all_append, w_t2, ← List.take_append_drop 24 ((words1.drop 24).drop 24), List.all_append, w_t3, ← List.take_append_drop 24 (((words1.drop 24).drop 24).drop 24), List.all_append, w_t4, ← List.take_append_drop 24 ((((words1.drop 24).drop 24).drop 24).drop 24), List.all_append, w_t5, ← List.take_append_drop 24 (((((words1.drop 24).drop 24).drop 24).drop 24).drop 24), List.all_append, w_t6, w_t7]
  rfl
set_option maxRecDepth 65536 in
theorem w_rest : rest_1_c.before args0 about1 = true := by decide +kernel
set_option maxRecDepth 65536 in
theorem w_case : (Jvm.Cond.and given_1 narrow_1).before args0 about1 = true := by decide +kernel
set_option maxRecDepth 65536 in
theorem w_consts : constsHeld consts_1 about1 := Jvm.Lit.constsHeldB_iff.mp (by decide +kernel)
theorem w_applies : (headSpec (Jvm.Cond.code x code maxLocals ret :: tables_1) room_1).applies x e0.platform about1 = true :=
  (Spec.applies_iff w_frames).mpr ⟨w_running, w_runnable, w_alone, w_named, w_hears, w_ripe, w_room, w_tables⟩
theorem atStart : AtStart classFile x code maxLocals ret World_1 tables_1 room_1 Calls_1 rest_1 Pre_1 launch0 p0 e0 about1 theMethod args0 below0 :=
  ⟨lists_1, trivial, launch0.admits_env _ _ _, launch0.least_env, fairChoices_fair.cas, fairChoices_fair.clock, w_frames, w_args, w_heap, w_applies, ⟨w_consts, trivial⟩, w_rest, w_case⟩
end start1
theorem witness_1 : WitnessClaimed_1 := ⟨start1.p0, start1.e0, start1.about1, start1.theMethod, start1.args0, start1.below0, start1.atStart⟩
end Jvm.Pilot.@@N@@
