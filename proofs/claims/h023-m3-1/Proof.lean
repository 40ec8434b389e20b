import JvmDerived
import JvmDerived.Pilot.@@N@@Statement
import JvmDerived.Pilot.@@N@@Code
set_option linter.unusedVariables false
set_option linter.unusedSimpArgs false
namespace Jvm.RoadKit
open Sem ClassFile Op Lib Jvm.Stand Jvm.Free Jvm.LawKit
section Own
abbrev EL0 : List (String × Nat) := [("java/lang/String", 7)]
variable {p : Program} {l : Launch} {e : Env} {R : Room} {s : State} {m : MethodId} {args : Array Value} {below : List Frame} {meth : Method} {c : Code} {Z : State} {a0 : Array Value}
/-- what a body's walk stands on -/
def OC (p : Program) (s : State) (m : MethodId) (meth : Method) (c : Code) (Z : State) (own nm : String) (bytes : ByteArray) (ml : Nat) (ret : Option FieldType) : Prop :=
  p.tables.exec = Jvm.exec ∧ c.code = bytes ∧ Z.Warmed39 s.vm ∧ s.vm.findClass own = some m.cls ∧ c.maxLocals = ml ∧ meth.sig.returnType = ret ∧ meth.locks = false ∧ meth.name = nm ∧ ∃ a1, EW Z a1 EL0
/-- where the walk stands: the heap, what has been made, what has been written -/
def OS (p : Program) (l : Launch) (e : Env) (R : Room) (s : State) (m : MethodId) (args : Array Value) (below : List Frame) (meth : Method) (c : Code) (Z : State) (SA : List Addr) (n0 : Nat) (h : Heap) (cl sl : Nat) (T : State) (locs : List Loc) : Prop :=
  ∃ vm0 k0, Stand p l e R (s.setVm vm0) m args below meth c T locs cl sl ∧ Fr n0 locs ∧ T.heap = h ∧ cl ≤ R.cells ∧ sl ≤ R.slots ∧ s.Since vm0 k0 ∧ k0 ≤ h.size ∧ CHr Z EL0 s.vm s.heap vm0 h ∧ ∀ x ∈ SA, Safe Z EL0 vm0 h x ∧ x < h.size
/-- a run that leaves the heap as it is: from the frame g to the frame g' -/
def OG (p : Program) (l : Launch) (e : Env) (R : Room) (s : State) (m : MethodId) (args : Array Value) (below : List Frame) (meth : Method) (c : Code) (Z : State) (SA : List Addr) (n0 : Nat) (h : Heap) (g g' : JFrame) : Prop :=
  ∀ T locs cl sl, OS p l e R s m args below meth c Z SA n0 h cl sl T locs →
    ∃ T' locs', OS p l e R s m args below meth c Z SA n0 h cl sl T' locs' ∧ ∀ target, Steps p.tables e below (T'.setTop g') target → Steps p.tables e below (T.setTop g) target
/-- what is left to run from the frame g: it returns, and Q holds of what it returns and of the heap -/
def OW (p : Program) (l : Launch) (e : Env) (R : Room) (s : State) (m : MethodId) (args : Array Value) (below : List Frame) (meth : Method) (c : Code) (Z : State) (SA : List Addr) (n0 : Nat) (Q : Option Value → Heap → Prop) (K N : Nat) (h : Heap) (cl sl : Nat) (g : JFrame) : Prop :=
  ∀ T locs, OS p l e R s m args below meth c Z SA n0 h cl sl T locs →
    ∃ s₂ o, Steps p.tables e below (T.setTop g) s₂ ∧ s₂.status = .running ∧ Ended s₂ below o ∧ ∃ v L, o = .returned v ∧ (Q v s₂.heap ∧ Fr n0 L) ∧ CHr Z EL0 s.vm s.heap s₂.vm s₂.heap ∧ ReturnedEndW s o s₂ L K N
variable {SA SA' : List Addr} {own nm : String} {bytes : ByteArray} {ml n0 K N : Nat} {ret : Option FieldType} {Q : Option Value → Heap → Prop} {h : Heap} {cl sl : Nat} {g g' g'' : JFrame} {pc pc' : Nat} {ls ls' : Array Slot} {st : List Value}
theorem OG.refl : OG p l e R s m args below meth c Z SA n0 h g g := fun T locs _ _ X => ⟨T, locs, X, fun _ k => k⟩
theorem OG.trans (A : OG p l e R s m args below meth c Z SA n0 h g g') (B : OG p l e R s m args below meth c Z SA n0 h g' g'') : OG p l e R s m args below meth c Z SA n0 h g g'' := fun T locs cl sl X => by
  obtain ⟨T1, L1, X1, k1⟩ := A T locs cl sl X
  obtain ⟨T2, L2, X2, k2⟩ := B T1 L1 cl sl X1
  exact ⟨T2, L2, X2, fun t k => k1 t (k2 t k)⟩
theorem OG.ow (A : OG p l e R s m args below meth c Z SA n0 h g g') (B : OW p l e R s m args below meth c Z SA n0 Q K N h cl sl g') : OW p l e R s m args below meth c Z SA n0 Q K N h cl sl g := fun T locs X => by
  obtain ⟨T1, L1, X1, k1⟩ := A T locs cl sl X
  obtain ⟨s₂, o, q, r⟩ := B T1 L1 X1
  exact ⟨s₂, o, k1 _ q, r⟩
theorem OG.cast (A : OG p l e R s m args below meth c Z SA n0 h g g') (q : g' = g'') : OG p l e R s m args below meth c Z SA n0 h g g'' := q ▸ A
theorem OW.cast (q : g = g') (A : OW p l e R s m args below meth c Z SA n0 Q K N h cl sl g') : OW p l e R s m args below meth c Z SA n0 Q K N h cl sl g := q ▸ A
theorem OW.more {cl' sl' : Nat} (A : OW p l e R s m args below meth c Z SA n0 Q K N h cl' sl' g) (q1 : cl ≤ cl') (q2 : sl ≤ sl') (q3 : cl' ≤ R.cells) (q4 : sl' ≤ R.slots) (q5 : ∀ x ∈ SA, x ∈ SA') : OW p l e R s m args below meth c Z SA' n0 Q K N h cl sl g := fun T locs ⟨vm0, k0, X, r1, r2, _, _, r3, r4, r5, r6⟩ => A T locs ⟨vm0, k0, X.more q1 q2, r1, r2, q3, q4, r3, r4, r5, fun x q => r6 x (q5 x q)⟩
/-- the two arms of a branch meet -/
theorem OG.ite {α : Type} {P : Prop} [Decidable P] {f : α → JFrame} {x y : α} (A : P → OG p l e R s m args below meth c Z SA n0 h g (f x)) (B : ¬ P → OG p l e R s m args below meth c Z SA n0 h g (f y)) : OG p l e R s m args below meth c Z SA n0 h g (f (if P then x else y)) := by
  by_cases q : P
  · rw [if_pos q]; exact A q
  · rw [if_neg q]; exact B q
theorem OG.of (k : ∀ (s' : State) T locs cl sl, Stand p l e R s' m args below meth c T locs cl sl → ∀ target, Steps p.tables e below (T.setTop g') target → Steps p.tables e below (T.setTop g) target) : OG p l e R s m args below meth c Z SA n0 h g g' :=
  fun T locs _ _ X => ⟨T, locs, X, by obtain ⟨vm0, k0, X, -⟩ := X; exact k _ T locs _ _ X⟩
theorem OC.d (C : OC p s m meth c Z own nm bytes ml ret) {r : Except DecodeError (Instr × Nat)} (q : decode bytes pc = r) : decode c.code pc = r := by rw [C.2.1]; exact q
theorem own_fr {x z : Int32} (q : x = z) : mkF m pc ls (.int x :: st) = mkF m pc ls (.int z :: st) := by rw [q]
theorem OG.ite0 {P : Prop} [Decidable P] (A : P → OG p l e R s m args below meth c Z SA n0 h g g') (B : ¬ P → OG p l e R s m args below meth c Z SA n0 h g g') : OG p l e R s m args below meth c Z SA n0 h g g' := by
  by_cases q : P
  · exact A q
  · exact B q
theorem OG.ite2 {α β : Type} {P : Prop} [Decidable P] {f : α → β → JFrame} {x y : α} {x' y' : β} (A : P → OG p l e R s m args below meth c Z SA n0 h g (f x x')) (B : ¬ P → OG p l e R s m args below meth c Z SA n0 h g (f y y')) : OG p l e R s m args below meth c Z SA n0 h g (f (if P then x else y) (if P then x' else y')) := by
  by_cases q : P
  · rw [if_pos q, if_pos q]; exact A q
  · rw [if_neg q, if_neg q]; exact B q
theorem OC.lift {vm0 : Vm} {k0 : Nat} (C : OC p s m meth c Z own nm bytes ml ret) (hS : s.Since vm0 k0) : OC p (s.setVm vm0) m meth c Z own nm bytes ml ret :=
  ⟨C.1, C.2.1, State.Warmed39.trans C.2.2.1 hS.1, by rw [show (s.setVm vm0).vm = vm0 from rfl, hS.1.alike.findClass]; exact C.2.2.2.1, C.2.2.2.2⟩
theorem RW.mono {s t : State} {o : Outcome} {L : List Loc} {k n k' n' : Nat} (q : ReturnedEndW s o t L k n) (h1 : k ≤ k') (h2 : n ≤ n') : ReturnedEndW s o t L k' n' := ⟨q.1, q.2.1, q.2.2.1, q.2.2.2.mono h1 h2⟩
theorem OG.iloadN (C : OC p s m meth c Z own nm bytes ml ret) {k : Fin 4} {v : Int32} (hd : decode bytes pc = .ok (.iload_n k, 1)) (hl : ls[k.val]? = some (.val (.int v))) (hp : pc + 1 = pc') : OG p l e R s m args below meth c Z SA n0 h (mkF m pc ls st) (mkF m pc' ls (.int v :: st)) := by
  subst hp
  exact OG.of fun s' T locs cl sl X target k => XS.iloadN X.here C.1 rfl (C.d hd) hl k
theorem OG.iload (C : OC p s m meth c Z own nm bytes ml ret) {k : Nat} {v : Int32} (hd : decode bytes pc = .ok (.iload k, 2)) (hl : ls[k]? = some (.val (.int v))) (hp : pc + 2 = pc') : OG p l e R s m args below meth c Z SA n0 h (mkF m pc ls st) (mkF m pc' ls (.int v :: st)) := by
  subst hp
  exact OG.of fun s' T locs cl sl X target k => XS.iload X.here C.1 rfl (C.d hd) hl k
theorem OG.lloadN (C : OC p s m meth c Z own nm bytes ml ret) {k : Fin 4} {v : Int64} (hd : decode bytes pc = .ok (.lload_n k, 1)) (hl : ls[k.val]? = some (.val (.long v))) (hp : pc + 1 = pc') : OG p l e R s m args below meth c Z SA n0 h (mkF m pc ls st) (mkF m pc' ls (.long v :: st)) := by
  subst hp
  exact OG.of fun s' T locs cl sl X target k => XS.lloadN X.here C.1 rfl (C.d hd) hl k
theorem OG.lload (C : OC p s m meth c Z own nm bytes ml ret) {k : Nat} {v : Int64} (hd : decode bytes pc = .ok (.lload k, 2)) (hl : ls[k]? = some (.val (.long v))) (hp : pc + 2 = pc') : OG p l e R s m args below meth c Z SA n0 h (mkF m pc ls st) (mkF m pc' ls (.long v :: st)) := by
  subst hp
  exact OG.of fun s' T locs cl sl X target k => XS.lload X.here C.1 rfl (C.d hd) hl k
theorem OG.aloadN (C : OC p s m meth c Z own nm bytes ml ret) {k : Fin 4} {v : Value} (hd : decode bytes pc = .ok (.aload_n k, 1)) (hl : ls[k.val]? = some (.val v)) (hv : v.isRef = true) (hp : pc + 1 = pc') : OG p l e R s m args below meth c Z SA n0 h (mkF m pc ls st) (mkF m pc' ls (v :: st)) := by
  subst hp
  exact OG.of fun s' T locs cl sl X target k => XS.aloadN X.here C.1 rfl (C.d hd) hl hv k
theorem OG.aload (C : OC p s m meth c Z own nm bytes ml ret) {k : Nat} {v : Value} (hd : decode bytes pc = .ok (.aload k, 2)) (hl : ls[k]? = some (.val v)) (hv : v.isRef = true) (hp : pc + 2 = pc') : OG p l e R s m args below meth c Z SA n0 h (mkF m pc ls st) (mkF m pc' ls (v :: st)) := by
  subst hp
  exact OG.of fun s' T locs cl sl X target k => XS.aload X.here C.1 rfl (C.d hd) hl hv k
theorem OG.istoreN (C : OC p s m meth c Z own nm bytes ml ret) {k : Fin 4} {v : Int32} (hd : decode bytes pc = .ok (.istore_n k, 1)) (hl : storeLocals ls k.val (.int v) = some ls') (hp : pc + 1 = pc') : OG p l e R s m args below meth c Z SA n0 h (mkF m pc ls (.int v :: st)) (mkF m pc' ls' st) := by
  subst hp
  exact OG.of fun s' T locs cl sl X target k => XS.istoreN X.here C.1 rfl (C.d hd) rfl hl k
theorem OG.istore (C : OC p s m meth c Z own nm bytes ml ret) {k : Nat} {v : Int32} (hd : decode bytes pc = .ok (.istore k, 2)) (hl : storeLocals ls k (.int v) = some ls') (hp : pc + 2 = pc') : OG p l e R s m args below meth c Z SA n0 h (mkF m pc ls (.int v :: st)) (mkF m pc' ls' st) := by
  subst hp
  exact OG.of fun s' T locs cl sl X target k => XS.istore X.here C.1 rfl (C.d hd) rfl hl k
theorem OG.lstoreN (C : OC p s m meth c Z own nm bytes ml ret) {k : Fin 4} {v : Int64} (hd : decode bytes pc = .ok (.lstore_n k, 1)) (hl : storeLocals ls k.val (.long v) = some ls') (hp : pc + 1 = pc') : OG p l e R s m args below meth c Z SA n0 h (mkF m pc ls (.long v :: st)) (mkF m pc' ls' st) := by
  subst hp
  exact OG.of fun s' T locs cl sl X target k => XS.lstoreN X.here C.1 rfl (C.d hd) rfl hl k
theorem OG.lstore (C : OC p s m meth c Z own nm bytes ml ret) {k : Nat} {v : Int64} (hd : decode bytes pc = .ok (.lstore k, 2)) (hl : storeLocals ls k (.long v) = some ls') (hp : pc + 2 = pc') : OG p l e R s m args below meth c Z SA n0 h (mkF m pc ls (.long v :: st)) (mkF m pc' ls' st) := by
  subst hp
  exact OG.of fun s' T locs cl sl X target k => XS.lstore X.here C.1 rfl (C.d hd) rfl hl k
theorem OG.astoreN (C : OC p s m meth c Z own nm bytes ml ret) {k : Fin 4} {v : Value} (hd : decode bytes pc = .ok (.astore_n k, 1)) (hv : v.isRef = true) (hl : storeLocals ls k.val v = some ls') (hp : pc + 1 = pc') : OG p l e R s m args below meth c Z SA n0 h (mkF m pc ls (v :: st)) (mkF m pc' ls' st) := by
  subst hp
  exact OG.of fun s' T locs cl sl X target k => XS.astoreN X.here C.1 rfl (C.d hd) rfl hv hl k
theorem OG.astore (C : OC p s m meth c Z own nm bytes ml ret) {k : Nat} {v : Value} (hd : decode bytes pc = .ok (.astore k, 2)) (hv : v.isRef = true) (hl : storeLocals ls k v = some ls') (hp : pc + 2 = pc') : OG p l e R s m args below meth c Z SA n0 h (mkF m pc ls (v :: st)) (mkF m pc' ls' st) := by
  subst hp
  exact OG.of fun s' T locs cl sl X target k => XS.astore X.here C.1 rfl (C.d hd) rfl hv hl k
theorem OG.iconst (C : OC p s m meth c Z own nm bytes ml ret) {i : Int} {z : Int32} (hd : decode bytes pc = .ok (.iconst i, 1)) (hz : Int32.ofInt i = z) (hp : pc + 1 = pc') : OG p l e R s m args below meth c Z SA n0 h (mkF m pc ls st) (mkF m pc' ls (.int z :: st)) := by
  subst hp hz
  exact OG.of fun s' T locs cl sl X target k => XS.iconst X.here C.1 rfl (C.d hd)  k
theorem OG.bipush (C : OC p s m meth c Z own nm bytes ml ret) {i : Int} {z : Int32} (hd : decode bytes pc = .ok (.bipush i, 2)) (hz : (Int8.ofInt i).toInt32 = z) (hp : pc + 2 = pc') : OG p l e R s m args below meth c Z SA n0 h (mkF m pc ls st) (mkF m pc' ls (.int z :: st)) := by
  subst hp hz
  exact OG.of fun s' T locs cl sl X target k => XS.bipush X.here C.1 rfl (C.d hd)  k
theorem OG.sipush (C : OC p s m meth c Z own nm bytes ml ret) {i : Int} {z : Int32} (hd : decode bytes pc = .ok (.sipush i, 3)) (hz : (Int16.ofInt i).toInt32 = z) (hp : pc + 3 = pc') : OG p l e R s m args below meth c Z SA n0 h (mkF m pc ls st) (mkF m pc' ls (.int z :: st)) := by
  subst hp hz
  exact OG.of fun s' T locs cl sl X target k => XS.sipush X.here C.1 rfl (C.d hd)  k
theorem OG.lconst (C : OC p s m meth c Z own nm bytes ml ret) {i : Fin 2} {z : Int64} (hd : decode bytes pc = .ok (.lconst i, 1)) (hz : Int64.ofNat i = z) (hp : pc + 1 = pc') : OG p l e R s m args below meth c Z SA n0 h (mkF m pc ls st) (mkF m pc' ls (.long z :: st)) := by
  subst hp hz
  exact OG.of fun s' T locs cl sl X target k => XS.lconst X.here C.1 rfl (C.d hd)  k
theorem OG.aconst_null (C : OC p s m meth c Z own nm bytes ml ret)  (hd : decode bytes pc = .ok (.aconst_null, 1))  (hp : pc + 1 = pc') : OG p l e R s m args below meth c Z SA n0 h (mkF m pc ls st) (mkF m pc' ls (.null :: st)) := by
  subst hp
  exact OG.of fun s' T locs cl sl X target k => XS.aconstNull X.here C.1 rfl (C.d hd)  k
theorem OG.iadd (C : OC p s m meth c Z own nm bytes ml ret) {x y : Int32} (hd : decode bytes pc = .ok (.iadd, 1))  (hp : pc + 1 = pc') : OG p l e R s m args below meth c Z SA n0 h (mkF m pc ls (.int y :: .int x :: st)) (mkF m pc' ls (.int (x + y) :: st)) := by
  subst hp
  exact OG.of fun s' T locs cl sl X target k => XS.iadd X.here C.1 rfl (C.d hd) rfl k
theorem OG.ladd (C : OC p s m meth c Z own nm bytes ml ret) {x y : Int64} (hd : decode bytes pc = .ok (.ladd, 1))  (hp : pc + 1 = pc') : OG p l e R s m args below meth c Z SA n0 h (mkF m pc ls (.long y :: .long x :: st)) (mkF m pc' ls (.long (x + y) :: st)) := by
  subst hp
  exact OG.of fun s' T locs cl sl X target k => XS.ladd X.here C.1 rfl (C.d hd) rfl k
theorem OG.isub (C : OC p s m meth c Z own nm bytes ml ret) {x y : Int32} (hd : decode bytes pc = .ok (.isub, 1))  (hp : pc + 1 = pc') : OG p l e R s m args below meth c Z SA n0 h (mkF m pc ls (.int y :: .int x :: st)) (mkF m pc' ls (.int (x - y) :: st)) := by
  subst hp
  exact OG.of fun s' T locs cl sl X target k => XS.isub X.here C.1 rfl (C.d hd) rfl k
theorem OG.lsub (C : OC p s m meth c Z own nm bytes ml ret) {x y : Int64} (hd : decode bytes pc = .ok (.lsub, 1))  (hp : pc + 1 = pc') : OG p l e R s m args below meth c Z SA n0 h (mkF m pc ls (.long y :: .long x :: st)) (mkF m pc' ls (.long (x - y) :: st)) := by
  subst hp
  exact OG.of fun s' T locs cl sl X target k => XS.lsub X.here C.1 rfl (C.d hd) rfl k
theorem OG.imul (C : OC p s m meth c Z own nm bytes ml ret) {x y : Int32} (hd : decode bytes pc = .ok (.imul, 1))  (hp : pc + 1 = pc') : OG p l e R s m args below meth c Z SA n0 h (mkF m pc ls (.int y :: .int x :: st)) (mkF m pc' ls (.int (x * y) :: st)) := by
  subst hp
  exact OG.of fun s' T locs cl sl X target k => XS.imul X.here C.1 rfl (C.d hd) rfl k
theorem OG.lmul (C : OC p s m meth c Z own nm bytes ml ret) {x y : Int64} (hd : decode bytes pc = .ok (.lmul, 1))  (hp : pc + 1 = pc') : OG p l e R s m args below meth c Z SA n0 h (mkF m pc ls (.long y :: .long x :: st)) (mkF m pc' ls (.long (x * y) :: st)) := by
  subst hp
  exact OG.of fun s' T locs cl sl X target k => XS.lmul X.here C.1 rfl (C.d hd) rfl k
theorem OG.iand (C : OC p s m meth c Z own nm bytes ml ret) {x y : Int32} (hd : decode bytes pc = .ok (.iand, 1))  (hp : pc + 1 = pc') : OG p l e R s m args below meth c Z SA n0 h (mkF m pc ls (.int y :: .int x :: st)) (mkF m pc' ls (.int (x &&& y) :: st)) := by
  subst hp
  exact OG.of fun s' T locs cl sl X target k => XS.iand X.here C.1 rfl (C.d hd) rfl k
theorem OG.land (C : OC p s m meth c Z own nm bytes ml ret) {x y : Int64} (hd : decode bytes pc = .ok (.land, 1))  (hp : pc + 1 = pc') : OG p l e R s m args below meth c Z SA n0 h (mkF m pc ls (.long y :: .long x :: st)) (mkF m pc' ls (.long (x &&& y) :: st)) := by
  subst hp
  exact OG.of fun s' T locs cl sl X target k => XS.land X.here C.1 rfl (C.d hd) rfl k
theorem OG.ior (C : OC p s m meth c Z own nm bytes ml ret) {x y : Int32} (hd : decode bytes pc = .ok (.ior, 1))  (hp : pc + 1 = pc') : OG p l e R s m args below meth c Z SA n0 h (mkF m pc ls (.int y :: .int x :: st)) (mkF m pc' ls (.int (x ||| y) :: st)) := by
  subst hp
  exact OG.of fun s' T locs cl sl X target k => XS.ior X.here C.1 rfl (C.d hd) rfl k
theorem OG.lor (C : OC p s m meth c Z own nm bytes ml ret) {x y : Int64} (hd : decode bytes pc = .ok (.lor, 1))  (hp : pc + 1 = pc') : OG p l e R s m args below meth c Z SA n0 h (mkF m pc ls (.long y :: .long x :: st)) (mkF m pc' ls (.long (x ||| y) :: st)) := by
  subst hp
  exact OG.of fun s' T locs cl sl X target k => XS.lor X.here C.1 rfl (C.d hd) rfl k
theorem OG.ixor (C : OC p s m meth c Z own nm bytes ml ret) {x y : Int32} (hd : decode bytes pc = .ok (.ixor, 1))  (hp : pc + 1 = pc') : OG p l e R s m args below meth c Z SA n0 h (mkF m pc ls (.int y :: .int x :: st)) (mkF m pc' ls (.int (x ^^^ y) :: st)) := by
  subst hp
  exact OG.of fun s' T locs cl sl X target k => XS.ixor X.here C.1 rfl (C.d hd) rfl k
theorem OG.lxor (C : OC p s m meth c Z own nm bytes ml ret) {x y : Int64} (hd : decode bytes pc = .ok (.lxor, 1))  (hp : pc + 1 = pc') : OG p l e R s m args below meth c Z SA n0 h (mkF m pc ls (.long y :: .long x :: st)) (mkF m pc' ls (.long (x ^^^ y) :: st)) := by
  subst hp
  exact OG.of fun s' T locs cl sl X target k => XS.lxor X.here C.1 rfl (C.d hd) rfl k
theorem OG.idiv (C : OC p s m meth c Z own nm bytes ml ret) {x y : Int32} (hd : decode bytes pc = .ok (.idiv, 1)) (hy : y ≠ 0) (hp : pc + 1 = pc') : OG p l e R s m args below meth c Z SA n0 h (mkF m pc ls (.int y :: .int x :: st)) (mkF m pc' ls (.int (x / y) :: st)) := by
  subst hp
  exact OG.of fun s' T locs cl sl X target k => XS.idiv X.here C.1 rfl (C.d hd) rfl hy k
theorem OG.ldiv (C : OC p s m meth c Z own nm bytes ml ret) {x y : Int64} (hd : decode bytes pc = .ok (.ldiv, 1)) (hy : y ≠ 0) (hp : pc + 1 = pc') : OG p l e R s m args below meth c Z SA n0 h (mkF m pc ls (.long y :: .long x :: st)) (mkF m pc' ls (.long (x / y) :: st)) := by
  subst hp
  exact OG.of fun s' T locs cl sl X target k => XS.ldiv X.here C.1 rfl (C.d hd) rfl hy k
theorem OG.ineg (C : OC p s m meth c Z own nm bytes ml ret) {x : Int32} (hd : decode bytes pc = .ok (.ineg, 1))  (hp : pc + 1 = pc') : OG p l e R s m args below meth c Z SA n0 h (mkF m pc ls (.int x :: st)) (mkF m pc' ls (.int (-x) :: st)) := by
  subst hp
  exact OG.of fun s' T locs cl sl X target k => XS.ineg X.here C.1 rfl (C.d hd) rfl k
theorem OG.lneg (C : OC p s m meth c Z own nm bytes ml ret) {x : Int64} (hd : decode bytes pc = .ok (.lneg, 1))  (hp : pc + 1 = pc') : OG p l e R s m args below meth c Z SA n0 h (mkF m pc ls (.long x :: st)) (mkF m pc' ls (.long (-x) :: st)) := by
  subst hp
  exact OG.of fun s' T locs cl sl X target k => XS.lneg X.here C.1 rfl (C.d hd) rfl k
theorem OG.i2l (C : OC p s m meth c Z own nm bytes ml ret) {x : Int32} (hd : decode bytes pc = .ok (.i2l, 1))  (hp : pc + 1 = pc') : OG p l e R s m args below meth c Z SA n0 h (mkF m pc ls (.int x :: st)) (mkF m pc' ls (.long x.toInt64 :: st)) := by
  subst hp
  exact OG.of fun s' T locs cl sl X target k => XS.i2l X.here C.1 rfl (C.d hd) rfl k
theorem OG.l2i (C : OC p s m meth c Z own nm bytes ml ret) {x : Int64} (hd : decode bytes pc = .ok (.l2i, 1))  (hp : pc + 1 = pc') : OG p l e R s m args below meth c Z SA n0 h (mkF m pc ls (.long x :: st)) (mkF m pc' ls (.int x.toInt32 :: st)) := by
  subst hp
  exact OG.of fun s' T locs cl sl X target k => XS.l2i X.here C.1 rfl (C.d hd) rfl k
theorem OG.i2b (C : OC p s m meth c Z own nm bytes ml ret) {x : Int32} (hd : decode bytes pc = .ok (.i2b, 1))  (hp : pc + 1 = pc') : OG p l e R s m args below meth c Z SA n0 h (mkF m pc ls (.int x :: st)) (mkF m pc' ls (.int x.toInt8.toInt32 :: st)) := by
  subst hp
  exact OG.of fun s' T locs cl sl X target k => XS.i2b X.here C.1 rfl (C.d hd) rfl k
theorem OG.i2c (C : OC p s m meth c Z own nm bytes ml ret) {x : Int32} (hd : decode bytes pc = .ok (.i2c, 1))  (hp : pc + 1 = pc') : OG p l e R s m args below meth c Z SA n0 h (mkF m pc ls (.int x :: st)) (mkF m pc' ls (.int x.toUInt32.toUInt16.toUInt32.toInt32 :: st)) := by
  subst hp
  exact OG.of fun s' T locs cl sl X target k => XS.i2c X.here C.1 rfl (C.d hd) rfl k
theorem OG.i2s (C : OC p s m meth c Z own nm bytes ml ret) {x : Int32} (hd : decode bytes pc = .ok (.i2s, 1))  (hp : pc + 1 = pc') : OG p l e R s m args below meth c Z SA n0 h (mkF m pc ls (.int x :: st)) (mkF m pc' ls (.int x.toInt16.toInt32 :: st)) := by
  subst hp
  exact OG.of fun s' T locs cl sl X target k => XS.i2s X.here C.1 rfl (C.d hd) rfl k
theorem OG.ishl (C : OC p s m meth c Z own nm bytes ml ret) {x y : Int32} (hd : decode bytes pc = .ok (.ishl, 1))  (hp : pc + 1 = pc') : OG p l e R s m args below meth c Z SA n0 h (mkF m pc ls (.int y :: .int x :: st)) (mkF m pc' ls (.int (x <<< (y &&& 31)) :: st)) := by
  subst hp
  exact OG.of fun s' T locs cl sl X target k => XS.ishl X.here C.1 rfl (C.d hd) rfl k
theorem OG.ishr (C : OC p s m meth c Z own nm bytes ml ret) {x y : Int32} (hd : decode bytes pc = .ok (.ishr, 1))  (hp : pc + 1 = pc') : OG p l e R s m args below meth c Z SA n0 h (mkF m pc ls (.int y :: .int x :: st)) (mkF m pc' ls (.int (x >>> (y &&& 31)) :: st)) := by
  subst hp
  exact OG.of fun s' T locs cl sl X target k => XS.ishr X.here C.1 rfl (C.d hd) rfl k
theorem OG.iushr (C : OC p s m meth c Z own nm bytes ml ret) {x y : Int32} (hd : decode bytes pc = .ok (.iushr, 1))  (hp : pc + 1 = pc') : OG p l e R s m args below meth c Z SA n0 h (mkF m pc ls (.int y :: .int x :: st)) (mkF m pc' ls (.int (x.toUInt32 >>> (y &&& 31).toUInt32).toInt32 :: st)) := by
  subst hp
  exact OG.of fun s' T locs cl sl X target k => XS.iushr X.here C.1 rfl (C.d hd) rfl k
theorem OG.lshl (C : OC p s m meth c Z own nm bytes ml ret) {x : Int64} {y : Int32} (hd : decode bytes pc = .ok (.lshl, 1))  (hp : pc + 1 = pc') : OG p l e R s m args below meth c Z SA n0 h (mkF m pc ls (.int y :: .long x :: st)) (mkF m pc' ls (.long (x <<< (y &&& 0x3f).toInt64) :: st)) := by
  subst hp
  exact OG.of fun s' T locs cl sl X target k => XS.lshl X.here C.1 rfl (C.d hd) rfl k
theorem OG.lshr (C : OC p s m meth c Z own nm bytes ml ret) {x : Int64} {y : Int32} (hd : decode bytes pc = .ok (.lshr, 1))  (hp : pc + 1 = pc') : OG p l e R s m args below meth c Z SA n0 h (mkF m pc ls (.int y :: .long x :: st)) (mkF m pc' ls (.long (x >>> (y &&& 0x3f).toInt64) :: st)) := by
  subst hp
  exact OG.of fun s' T locs cl sl X target k => XS.lshr X.here C.1 rfl (C.d hd) rfl k
theorem OG.lushr (C : OC p s m meth c Z own nm bytes ml ret) {x : Int64} {y : Int32} (hd : decode bytes pc = .ok (.lushr, 1))  (hp : pc + 1 = pc') : OG p l e R s m args below meth c Z SA n0 h (mkF m pc ls (.int y :: .long x :: st)) (mkF m pc' ls (.long (x.toUInt64 >>> (y &&& 0x3f).toInt64.toUInt64).toInt64 :: st)) := by
  subst hp
  exact OG.of fun s' T locs cl sl X target k => XS.lushr X.here C.1 rfl (C.d hd) rfl k
theorem OG.lcmp (C : OC p s m meth c Z own nm bytes ml ret) {x y : Int64} (hd : decode bytes pc = .ok (.lcmp, 1))  (hp : pc + 1 = pc') : OG p l e R s m args below meth c Z SA n0 h (mkF m pc ls (.long y :: .long x :: st)) (mkF m pc' ls (.int (lcmpW x y) :: st)) := by
  subst hp
  exact OG.of fun s' T locs cl sl X target k => XS.lcmp X.here C.1 rfl (C.d hd) rfl k
theorem OG.dup (C : OC p s m meth c Z own nm bytes ml ret) {x : Value} (hd : decode bytes pc = .ok (.dup, 1)) (hc : x.category = 1) (hp : pc + 1 = pc') : OG p l e R s m args below meth c Z SA n0 h (mkF m pc ls (x :: st)) (mkF m pc' ls (x :: x :: st)) := by
  subst hp
  exact OG.of fun s' T locs cl sl X target k => XS.dup X.here C.1 rfl (C.d hd) rfl hc k
theorem OG.pop (C : OC p s m meth c Z own nm bytes ml ret) {x : Value} (hd : decode bytes pc = .ok (.pop, 1)) (hc : x.category = 1) (hp : pc + 1 = pc') : OG p l e R s m args below meth c Z SA n0 h (mkF m pc ls (x :: st)) (mkF m pc' ls st) := by
  subst hp
  exact OG.of fun s' T locs cl sl X target k => XS.pop X.here C.1 rfl (C.d hd) rfl hc k
theorem OG.iinc (C : OC p s m meth c Z own nm bytes ml ret) {k : Nat} {i : Int} {x z : Int32} (hd : decode bytes pc = .ok (.iinc k i, 3)) (hz : Int32.ofInt i = z) (hl : ls[k]? = some (.val (.int x))) (hl' : storeLocals ls k (.int (x + z)) = some ls') (hp : pc + 3 = pc') : OG p l e R s m args below meth c Z SA n0 h (mkF m pc ls st) (mkF m pc' ls' st) := by
  subst hp hz
  exact OG.of fun s' T locs cl sl X target k => XS.iinc X.here C.1 rfl (C.d hd) hl hl' k
theorem OG.goto (C : OC p s m meth c Z own nm bytes ml ret) {o : Int} (hd : decode bytes pc = .ok (.goto o, 3)) (ho : 0 ≤ (pc : Int) + o) (hp : ((pc : Int) + o).toNat = pc') : OG p l e R s m args below meth c Z SA n0 h (mkF m pc ls st) (mkF m pc' ls st) := OG.of fun s' T locs cl sl X target k => XS.goto X.here C.1 rfl (pc0 := pc) rfl (C.d hd) ho hp k
theorem OG.ifYes (C : OC p s m meth c Z own nm bytes ml ret) {o : Int} {cd : ClassFile.Cond} {x : Int32} (hd : decode bytes pc = .ok (.ifCond cd o, 3)) (hc : ifCond.holds cd x = true) (ho : 0 ≤ (pc : Int) + o) (hp : ((pc : Int) + o).toNat = pc') : OG p l e R s m args below meth c Z SA n0 h (mkF m pc ls (.int x :: st)) (mkF m pc' ls st) := OG.of fun s' T locs cl sl X target k => XS.ifYes X.here C.1 rfl (pc0 := pc) rfl (C.d hd) rfl hc ho hp k
theorem OG.ifNo (C : OC p s m meth c Z own nm bytes ml ret) {o : Int} {cd : ClassFile.Cond} {x : Int32} (hd : decode bytes pc = .ok (.ifCond cd o, 3)) (hc : ifCond.holds cd x = false) (hp : pc + 3 = pc') : OG p l e R s m args below meth c Z SA n0 h (mkF m pc ls (.int x :: st)) (mkF m pc' ls st) := by
  subst hp
  exact OG.of fun s' T locs cl sl X target k => XS.ifNo X.here C.1 rfl (C.d hd) rfl hc k
theorem OG.icmpYes (C : OC p s m meth c Z own nm bytes ml ret) {o : Int} {cd : ClassFile.Cond} {x y : Int32} (hd : decode bytes pc = .ok (.if_icmp cd o, 3)) (hc : if_icmp.holds cd x y = true) (ho : 0 ≤ (pc : Int) + o) (hp : ((pc : Int) + o).toNat = pc') : OG p l e R s m args below meth c Z SA n0 h (mkF m pc ls (.int y :: .int x :: st)) (mkF m pc' ls st) := OG.of fun s' T locs cl sl X target k => XS.icmpYes X.here C.1 rfl (pc0 := pc) rfl (C.d hd) rfl hc ho hp k
theorem OG.icmpNo (C : OC p s m meth c Z own nm bytes ml ret) {o : Int} {cd : ClassFile.Cond} {x y : Int32} (hd : decode bytes pc = .ok (.if_icmp cd o, 3)) (hc : if_icmp.holds cd x y = false) (hp : pc + 3 = pc') : OG p l e R s m args below meth c Z SA n0 h (mkF m pc ls (.int y :: .int x :: st)) (mkF m pc' ls st) := by
  subst hp
  exact OG.of fun s' T locs cl sl X target k => XS.icmpNo X.here C.1 rfl (C.d hd) rfl hc k
theorem OG.ifnullYes (C : OC p s m meth c Z own nm bytes ml ret) {o : Int}  (hd : decode bytes pc = .ok (.ifnull o, 3))  (ho : 0 ≤ (pc : Int) + o) (hp : ((pc : Int) + o).toNat = pc') : OG p l e R s m args below meth c Z SA n0 h (mkF m pc ls (.null :: st)) (mkF m pc' ls st) := OG.of fun s' T locs cl sl X target k => XS.ifnullYes X.here C.1 rfl (pc0 := pc) rfl (C.d hd) rfl ho hp k
theorem OG.ifnullNo (C : OC p s m meth c Z own nm bytes ml ret) {o : Int} {b : Addr} (hd : decode bytes pc = .ok (.ifnull o, 3))  (hp : pc + 3 = pc') : OG p l e R s m args below meth c Z SA n0 h (mkF m pc ls (.ref b :: st)) (mkF m pc' ls st) := by
  subst hp
  exact OG.of fun s' T locs cl sl X target k => XS.ifnullNo X.here C.1 rfl (C.d hd) rfl k
theorem OG.ifnonnullYes (C : OC p s m meth c Z own nm bytes ml ret) {o : Int} {b : Addr} (hd : decode bytes pc = .ok (.ifnonnull o, 3))  (ho : 0 ≤ (pc : Int) + o) (hp : ((pc : Int) + o).toNat = pc') : OG p l e R s m args below meth c Z SA n0 h (mkF m pc ls (.ref b :: st)) (mkF m pc' ls st) := OG.of fun s' T locs cl sl X target k => XS.ifnonnullYes X.here C.1 rfl (pc0 := pc) rfl (C.d hd) rfl ho hp k
theorem OG.ifnonnullNo (C : OC p s m meth c Z own nm bytes ml ret) {o : Int}  (hd : decode bytes pc = .ok (.ifnonnull o, 3))  (hp : pc + 3 = pc') : OG p l e R s m args below meth c Z SA n0 h (mkF m pc ls (.null :: st)) (mkF m pc' ls st) := by
  subst hp
  exact OG.of fun s' T locs cl sl X target k => XS.ifnonnullNo X.here C.1 rfl (C.d hd) rfl k
theorem OG.irem (C : OC p s m meth c Z own nm bytes ml ret) {x y : Int32} (hd : decode bytes pc = .ok (.irem, 1)) (hy : y ≠ 0) (hp : pc + 1 = pc') : OG p l e R s m args below meth c Z SA n0 h (mkF m pc ls (.int y :: .int x :: st)) (mkF m pc' ls (.int (x % y) :: st)) := by
  subst hp
  refine OG.of fun s' T locs cl sl X target k => XS.irem X.here C.1 rfl (C.d hd) rfl hy ?_
  rw [irem_eq_mod x y]; exact k
theorem OG.lrem (C : OC p s m meth c Z own nm bytes ml ret) {x y : Int64} (hd : decode bytes pc = .ok (.lrem, 1)) (hy : y ≠ 0) (hp : pc + 1 = pc') : OG p l e R s m args below meth c Z SA n0 h (mkF m pc ls (.long y :: .long x :: st)) (mkF m pc' ls (.long (x % y) :: st)) := by
  subst hp
  refine OG.of fun s' T locs cl sl X target k => XS.lrem X.here C.1 rfl (C.d hd) rfl hy ?_
  rw [lrem_mod x y]; exact k
theorem OG.acmp (C : OC p s m meth c Z own nm bytes ml ret) {o : Int} {cd : ACond} {x y : Value} {same : Bool} (hd : decode bytes pc = .ok (.if_acmp cd o, 3)) (h1 : x.isRef = true) (h2 : y.isRef = true) (hq : decide (x = y) = same) (ho : 0 ≤ (pc : Int) + o) (hp : pc' = if acV cd same = true then ((pc : Int) + o).toNat else pc + 3) :
    OG p l e R s m args below meth c Z SA n0 h (mkF m pc ls (y :: x :: st)) (mkF m pc' ls st) :=
  OG.of fun s' T locs cl sl X target k => RoadKit.acmp X C.1 rfl h1 h2 (pc0 := pc) rfl (C.d hd) rfl hq ho hp k
theorem OG.ldcI (C : OC p s m meth c Z own nm bytes ml ret) {i : Nat} {v : Int32} (w : (Cond.constant own i v).before a0 Z = true) (hd : decode bytes pc = .ok (.ldc i, 2)) (hp : pc + 2 = pc') : OG p l e R s m args below meth c Z SA n0 h (mkF m pc ls st) (mkF m pc' ls (.int v :: st)) := by
  subst hp
  rintro T locs cl sl ⟨vm0, k0, X, N0, e0, bc, bs, hS, hk, hC, hA⟩
  have C := C.lift hS
  exact ⟨T, locs, ⟨vm0, k0, X, N0, e0, bc, bs, hS, hk, hC, hA⟩, fun target k => X.ldcInt C.1 C.2.2.2.1 (mv C.2.2.1 w) (g := mkF m pc ls st) rfl (C.d hd) target k⟩
theorem OG.ldcL (C : OC p s m meth c Z own nm bytes ml ret) {i : Nat} {v : Int64} (w : (Cond.constantLong own i v).before a0 Z = true) (hd : decode bytes pc = .ok (.ldc2_w i, 3)) (hp : pc + 3 = pc') : OG p l e R s m args below meth c Z SA n0 h (mkF m pc ls st) (mkF m pc' ls (.long v :: st)) := by
  subst hp
  rintro T locs cl sl ⟨vm0, k0, X, N0, e0, bc, bs, hS, hk, hC, hA⟩
  have C := C.lift hS
  exact ⟨T, locs, ⟨vm0, k0, X, N0, e0, bc, bs, hS, hk, hC, hA⟩, fun target k => X.ldc2Long C.1 C.2.2.2.1 (mv C.2.2.1 w) (g := mkF m pc ls st) rfl (C.d hd) target k⟩
theorem OG.ldcS (C : OC p s m meth c Z own nm bytes ml ret) {i : Nat} {t : String} {a : Addr} (w : (Cond.stringRef own i t).before a0 Z = true) (F : Lit Z own i a) (hd : decode bytes pc = .ok (.ldc i, 2)) (hp : pc + 2 = pc') : OG p l e R s m args below meth c Z SA n0 h (mkF m pc ls st) (mkF m pc' ls (.ref a :: st)) := by
  subst hp
  rintro T locs cl sl ⟨vm0, k0, X, N0, e0, bc, bs, hS, hk, hC, hA⟩
  have C := C.lift hS
  exact ⟨T, locs, ⟨vm0, k0, X, N0, e0, bc, bs, hS, hk, hC, hA⟩, fun target k => ldcR X C.1 C.2.2.1 C.2.2.2.1 w F (g := mkF m pc ls st) rfl (C.d hd) target k⟩
theorem OG.getF (C : OC p s m meth c Z own nm bytes ml ret) {R0 O n d host : String} {i : Nat} {a : Addr} {v : Value} (w : (Cond.fieldLink own i R0 n d).before a0 Z = true ∨ (Cond.fieldLinkNest own i R0 n d host).before a0 Z = true) (via : Via Z R0 O n d) (F : Fld Z h a O n d v) (hd : decode bytes pc = .ok (.getfield i, 3)) (hp : pc + 3 = pc') :
    OG p l e R s m args below meth c Z SA n0 h (mkF m pc ls (.ref a :: st)) (mkF m pc' ls (v :: st)) := by
  subst hp
  rintro T locs cl sl ⟨vm0, k0, X, N0, e0, bc, bs, hS, hk, hC, hA⟩
  have C := C.lift hS
  obtain ⟨T', X', e', k⟩ := RoadKit.getF X C.1 C.2.2.1 C.2.2.2.1 w via e0 F (g := mkF m pc ls (.ref a :: st)) rfl rfl (C.d hd)
  exact ⟨T', locs, ⟨vm0, k0, X', N0, e', bc, bs, hS, hk, hC, hA⟩, k⟩
theorem OG.getS (C : OC p s m meth c Z own nm bytes ml ret) {R0 O n d host : String} {i : Nat} {v : Value} (w : (Cond.fieldLink own i R0 n d).before a0 Z = true ∨ (Cond.fieldLinkNest own i R0 n d host).before a0 Z = true) (via : Via Z R0 O n d) (F : Sta Z h O n d v) (hd : decode bytes pc = .ok (.getstatic i, 3)) (hp : pc + 3 = pc') :
    OG p l e R s m args below meth c Z SA n0 h (mkF m pc ls st) (mkF m pc' ls (v :: st)) := by
  subst hp
  rintro T locs cl sl ⟨vm0, k0, X, N0, e0, bc, bs, hS, hk, hC, hA⟩
  have C := C.lift hS
  obtain ⟨T', X', e', k⟩ := getS2 X C.1 C.2.2.1 C.2.2.2.1 w via e0 F (g := mkF m pc ls st) rfl (C.d hd)
  exact ⟨T', locs, ⟨vm0, k0, X', N0, e', bc, bs, hS, hk, hC, hA⟩, k⟩
/-- an array and what stands in it -/
def OA (Z : State) (h : Heap) (a : Addr) (ty : FieldType) (vs : List Value) : Prop := ∃ c : Cell, Arr Z h a c ty ∧ c.slots.toList = vs
theorem OA.lt {a : Addr} {ty : FieldType} {vs : List Value} (A : OA Z h a ty vs) : a < h.size := by obtain ⟨c, A, -⟩ := A; exact A.lt
theorem OA.ext {h' : Heap} {a : Addr} {ty : FieldType} {vs : List Value} (A : OA Z h a ty vs) (E : Ext h h') : OA Z h' a ty vs := by obtain ⟨c, A, r⟩ := A; exact ⟨c, A.ext E, r⟩
theorem OA.other {h' : Heap} {a b : Addr} {k : Nat} {v : Value} {ty : FieldType} {vs : List Value} (A : OA Z h a ty vs) (W : Wr h h' b k v) (q : a ≠ b) : OA Z h' a ty vs := by obtain ⟨c, A, r⟩ := A; exact ⟨c, A.other W q, r⟩
theorem OA.same {h' : Heap} {a : Addr} {k : Nat} {v : Value} {ty : FieldType} {vs : List Value} (A : OA Z h a ty vs) (W : Wr h h' a k v) : OA Z h' a ty (vs.set k v) := by
  obtain ⟨c, A, r⟩ := A
  exact ⟨_, A.same W, by subst r; simp [Cell.setSlot]⟩
theorem OA.keep {h' : Heap} {a : Addr} {ws : List Addr} {ty : FieldType} {vs : List Value} (A : OA Z h a ty vs) (W : Keep h h' ws) (q : a ∉ ws) : OA Z h' a ty vs := by obtain ⟨c, A, r⟩ := A; exact ⟨c, ⟨W.2.1 a c A.1 q, A.2⟩, r⟩
theorem OA.inb {c : Cell} {vs : List Value} {j : Int32} (r : c.slots.toList = vs) (q : 0 ≤ j.toInt ∧ j.toInt < vs.length) : ¬ (j < 0 ∨ c.slots.size ≤ j.toNatClampNeg) := by
  have : c.slots.size = vs.length := by rw [← r]; simp
  rw [Int32.lt_iff_toInt_lt, Int32.toNatClampNeg]
  simp only [Int32.reduceToInt]; omega
theorem own_ib {j : Int32} {vs : List Value} {n : Nat} (q : vs.length = n) (r : 0 ≤ j.toInt ∧ j.toInt < (n : Int)) : 0 ≤ j.toInt ∧ j.toInt < vs.length := by rw [q]; exact r
theorem OA.new {k : ClassId} {a : Addr} {ty : FieldType} {z : Int32} {n : Nat} (A : Arr Z h a (newA k ty z) ty) (q : z.toNatClampNeg = n) : OA Z h a ty (List.replicate n (defaultValue ty)) := ⟨_, A, by subst q; simp [newA]⟩
theorem OG.laload (C : OC p s m meth c Z own nm bytes ml ret) {a : Addr} {j : Int32} {vs : List Value} {v : Value} (F : OA Z h a .long vs) (q : 0 ≤ j.toInt ∧ j.toInt < vs.length) (hv : vs[j.toNatClampNeg]? = some v) (hd : decode bytes pc = .ok (.laload, 1)) (hp : pc + 1 = pc') :
    OG p l e R s m args below meth c Z SA n0 h (mkF m pc ls (.int j :: .ref a :: st)) (mkF m pc' ls (v :: st)) := by
  subst hp
  rintro T locs cl sl ⟨vm0, k0, X, N0, e0, bc, bs, hS, hk, hC, hA⟩
  have C := C.lift hS
  obtain ⟨cc, A, r⟩ := F
  exact ⟨T, locs, ⟨vm0, k0, X, N0, e0, bc, bs, hS, hk, hC, hA⟩, X.laload C.1 (by rw [e0]; exact A.1) (State.isArrayOf_alike C.2.2.1.alike A.2.1) A.2.2 (OA.inb r q) (by rw [← r] at hv; simpa using hv) (g := mkF m pc ls (.int j :: .ref a :: st)) rfl rfl (C.d hd)⟩
theorem OG.iaload (C : OC p s m meth c Z own nm bytes ml ret) {a : Addr} {j : Int32} {vs : List Value} {v : Value} (F : OA Z h a .int vs) (q : 0 ≤ j.toInt ∧ j.toInt < vs.length) (hv : vs[j.toNatClampNeg]? = some v) (hd : decode bytes pc = .ok (.iaload, 1)) (hp : pc + 1 = pc') :
    OG p l e R s m args below meth c Z SA n0 h (mkF m pc ls (.int j :: .ref a :: st)) (mkF m pc' ls (v :: st)) := by
  subst hp
  rintro T locs cl sl ⟨vm0, k0, X, N0, e0, bc, bs, hS, hk, hC, hA⟩
  have C := C.lift hS
  obtain ⟨cc, A, r⟩ := F
  exact ⟨T, locs, ⟨vm0, k0, X, N0, e0, bc, bs, hS, hk, hC, hA⟩, X.iaload C.1 (by rw [e0]; exact A.1) (State.isArrayOf_alike C.2.2.1.alike A.2.1) A.2.2 (OA.inb r q) (by rw [← r] at hv; simpa using hv) (g := mkF m pc ls (.int j :: .ref a :: st)) rfl rfl (C.d hd)⟩
theorem OG.caload (C : OC p s m meth c Z own nm bytes ml ret) {a : Addr} {j : Int32} {vs : List Value} {v : Value} (F : OA Z h a .char vs) (q : 0 ≤ j.toInt ∧ j.toInt < vs.length) (hv : vs[j.toNatClampNeg]? = some v) (hd : decode bytes pc = .ok (.caload, 1)) (hp : pc + 1 = pc') :
    OG p l e R s m args below meth c Z SA n0 h (mkF m pc ls (.int j :: .ref a :: st)) (mkF m pc' ls (v :: st)) := by
  subst hp
  rintro T locs cl sl ⟨vm0, k0, X, N0, e0, bc, bs, hS, hk, hC, hA⟩
  have C := C.lift hS
  obtain ⟨cc, A, r⟩ := F
  exact ⟨T, locs, ⟨vm0, k0, X, N0, e0, bc, bs, hS, hk, hC, hA⟩, X.caload C.1 (by rw [e0]; exact A.1) (State.isArrayOf_alike C.2.2.1.alike A.2.1) A.2.2 (OA.inb r q) (by rw [← r] at hv; simpa using hv) (g := mkF m pc ls (.int j :: .ref a :: st)) rfl rfl (C.d hd)⟩
theorem OG.baload (C : OC p s m meth c Z own nm bytes ml ret) {a : Addr} {j : Int32} {vs : List Value} {v : Value} (F : OA Z h a .byte vs) (q : 0 ≤ j.toInt ∧ j.toInt < vs.length) (hv : vs[j.toNatClampNeg]? = some v) (hd : decode bytes pc = .ok (.baload, 1)) (hp : pc + 1 = pc') :
    OG p l e R s m args below meth c Z SA n0 h (mkF m pc ls (.int j :: .ref a :: st)) (mkF m pc' ls (v :: st)) := by
  subst hp
  rintro T locs cl sl ⟨vm0, k0, X, N0, e0, bc, bs, hS, hk, hC, hA⟩
  have C := C.lift hS
  obtain ⟨cc, A, r⟩ := F
  exact ⟨T, locs, ⟨vm0, k0, X, N0, e0, bc, bs, hS, hk, hC, hA⟩, X.baloadBytes C.1 (by rw [e0]; exact A.1) (State.isArrayOf_alike C.2.2.1.alike A.2.1) A.2.2 (OA.inb r q) (by rw [← r] at hv; simpa using hv) (g := mkF m pc ls (.int j :: .ref a :: st)) rfl rfl (C.d hd)⟩
theorem OG.aaload (C : OC p s m meth c Z own nm bytes ml ret) {a : Addr} {j : Int32} {ty : FieldType} {vs : List Value} {v : Value} (F : OA Z h a ty vs) (ht : ty.isReference = true) (q : 0 ≤ j.toInt ∧ j.toInt < vs.length) (hv : vs[j.toNatClampNeg]? = some v) (hd : decode bytes pc = .ok (.aaload, 1)) (hp : pc + 1 = pc') :
    OG p l e R s m args below meth c Z SA n0 h (mkF m pc ls (.int j :: .ref a :: st)) (mkF m pc' ls (v :: st)) := by
  subst hp
  rintro T locs cl sl ⟨vm0, k0, X, N0, e0, bc, bs, hS, hk, hC, hA⟩
  have C := C.lift hS
  obtain ⟨cc, A, r⟩ := F
  exact ⟨T, locs, ⟨vm0, k0, X, N0, e0, bc, bs, hS, hk, hC, hA⟩, X.aaload C.1 (by rw [e0]; exact A.1) (State.isArrayOf_alike C.2.2.1.alike A.2.1) ht A.2.2 (OA.inb r q) (by rw [← r] at hv; simpa using hv) (g := mkF m pc ls (.int j :: .ref a :: st)) rfl rfl (C.d hd)⟩
theorem OG.arraylength (C : OC p s m meth c Z own nm bytes ml ret) {a : Addr} {ty : FieldType} {vs : List Value} {z : Int32} (F : OA Z h a ty vs) (hz : vs.length.toInt32 = z) (hd : decode bytes pc = .ok (.arraylength, 1)) (hp : pc + 1 = pc') :
    OG p l e R s m args below meth c Z SA n0 h (mkF m pc ls (.ref a :: st)) (mkF m pc' ls (.int z :: st)) := by
  subst hp hz
  rintro T locs cl sl ⟨vm0, k0, X, N0, e0, bc, bs, hS, hk, hC, hA⟩
  have C := C.lift hS
  obtain ⟨cc, A, r⟩ := F
  refine ⟨T, locs, ⟨vm0, k0, X, N0, e0, bc, bs, hS, hk, hC, hA⟩, fun t k => X.arraylength C.1 (by rw [e0]; exact A.1) (State.isArrayOf_alike C.2.2.1.alike A.2.1) (g := mkF m pc ls (.ref a :: st)) rfl rfl (C.d hd) t ?_⟩
  have : cc.slots.size = vs.length := by rw [← r]; simp
  rw [this]; exact k
/-! returns -/
theorem OW.retI (C : OC p s m meth c Z own nm bytes ml (some .int)) {z : Int32} (hd : decode bytes pc = .ok (.ireturn, 1)) (hK : cl ≤ K) (hN : sl ≤ N) (hQ : Q (some (.int z)) h) : OW p l e R s m args below meth c Z SA n0 Q K N h cl sl (mkF m pc ls (.int z :: st)) := fun T locs ⟨vm0, k0, X, N0, e0, bc, bs, hS, hk, hC, hA⟩ => by
  have C := C.lift hS
  obtain ⟨fs, hr, hrun, hended, hW⟩ := X.leaveW hS (by rw [e0]; exact hk) (v := some (.int z)) (fun q => by rw [C.2.2.2.2.2.1] at q; cases q) C.2.2.2.2.2.2.1
  exact ⟨_, _, retOut X C.1 C.2.2.2.2.2.1 rfl (Or.inl ⟨rfl, Or.inl rfl, z, rfl⟩) (C.d hd) hr, hrun, hended, _, locs, rfl, ⟨by show Q _ T.heap; rw [e0]; exact hQ, N0⟩, (by show CHr Z EL0 s.vm s.heap T.vm T.heap; rw [e0]; exact hC.trans (by obtain ⟨a1, hw1⟩ := C.2.2.2.2.2.2.2.2; exact CHv.at X C.2.2.1 hw1 hC.1)), RW.mono hW hK hN⟩
theorem OW.retN {t : FieldType} (C : OC p s m meth c Z own nm bytes ml (some t)) {z : Int32} (ht : t = .boolean ∨ t = .byte ∨ t = .char ∨ t = .short) (hd : decode bytes pc = .ok (.ireturn, 1)) (hK : cl ≤ K) (hN : sl ≤ N) (hQ : Q (some (.int (nar t z))) h) : OW p l e R s m args below meth c Z SA n0 Q K N h cl sl (mkF m pc ls (.int z :: st)) := fun T locs ⟨vm0, k0, X, N0, e0, bc, bs, hS, hk, hC, hA⟩ => by
  have C := C.lift hS
  obtain ⟨fs, hr, hrun, hended, hW⟩ := X.leaveW hS (by rw [e0]; exact hk) (v := some (.int (nar t z))) (fun q => by rw [C.2.2.2.2.2.1] at q; cases q) C.2.2.2.2.2.2.1
  exact ⟨_, _, RoadKit.retN X C.1 C.2.2.2.2.2.1 ht (C.d hd) hr, hrun, hended, _, locs, rfl, ⟨by show Q _ T.heap; rw [e0]; exact hQ, N0⟩, (by show CHr Z EL0 s.vm s.heap T.vm T.heap; rw [e0]; exact hC.trans (by obtain ⟨a1, hw1⟩ := C.2.2.2.2.2.2.2.2; exact CHv.at X C.2.2.1 hw1 hC.1)), RW.mono hW hK hN⟩
theorem OW.retL (C : OC p s m meth c Z own nm bytes ml (some .long)) {z : Int64} (hd : decode bytes pc = .ok (.lreturn, 1)) (hK : cl ≤ K) (hN : sl ≤ N) (hQ : Q (some (.long z)) h) : OW p l e R s m args below meth c Z SA n0 Q K N h cl sl (mkF m pc ls (.long z :: st)) := fun T locs ⟨vm0, k0, X, N0, e0, bc, bs, hS, hk, hC, hA⟩ => by
  have C := C.lift hS
  obtain ⟨fs, hr, hrun, hended, hW⟩ := X.leaveW hS (by rw [e0]; exact hk) (v := some (.long z)) (fun q => by rw [C.2.2.2.2.2.1] at q; cases q) C.2.2.2.2.2.2.1
  exact ⟨_, _, retOut X C.1 C.2.2.2.2.2.1 rfl (Or.inr (Or.inl ⟨rfl, rfl, z, rfl⟩)) (C.d hd) hr, hrun, hended, _, locs, rfl, ⟨by show Q _ T.heap; rw [e0]; exact hQ, N0⟩, (by show CHr Z EL0 s.vm s.heap T.vm T.heap; rw [e0]; exact hC.trans (by obtain ⟨a1, hw1⟩ := C.2.2.2.2.2.2.2.2; exact CHv.at X C.2.2.1 hw1 hC.1)), RW.mono hW hK hN⟩
theorem OW.retA {t : FieldType} (C : OC p s m meth c Z own nm bytes ml (some t)) {v : Value} (ht : t.isReference = true) (hv : v.isRef = true) (hd : decode bytes pc = .ok (.areturn, 1)) (hK : cl ≤ K) (hN : sl ≤ N) (hQ : Q (some v) h) : OW p l e R s m args below meth c Z SA n0 Q K N h cl sl (mkF m pc ls (v :: st)) := fun T locs ⟨vm0, k0, X, N0, e0, bc, bs, hS, hk, hC, hA⟩ => by
  have C := C.lift hS
  have hn : narrow t v = v := by cases t <;> first | (cases ht; done) | (cases v <;> rfl)
  obtain ⟨fs, hr, hrun, hended, hW⟩ := X.leaveW hS (by rw [e0]; exact hk) (v := some v) (fun q => by rw [C.2.2.2.2.2.1] at q; cases q) C.2.2.2.2.2.2.1
  exact ⟨_, _, retOut X C.1 C.2.2.2.2.2.1 hn (Or.inr (Or.inr (Or.inr (Or.inr ⟨rfl, ht, hv⟩)))) (C.d hd) hr, hrun, hended, _, locs, rfl, ⟨by show Q _ T.heap; rw [e0]; exact hQ, N0⟩, (by show CHr Z EL0 s.vm s.heap T.vm T.heap; rw [e0]; exact hC.trans (by obtain ⟨a1, hw1⟩ := C.2.2.2.2.2.2.2.2; exact CHv.at X C.2.2.1 hw1 hC.1)), RW.mono hW hK hN⟩
theorem OW.retV (C : OC p s m meth c Z own nm bytes ml none) (hd : decode bytes pc = .ok (.return_, 1)) (hK : cl ≤ K) (hN : sl ≤ N) (hQ : Q none h) : OW p l e R s m args below meth c Z SA n0 Q K N h cl sl (mkF m pc ls []) := fun T locs ⟨vm0, k0, X, N0, e0, bc, bs, hS, hk, hC, hA⟩ => by
  have C := C.lift hS
  obtain ⟨fs, hr, hrun, hended, hW⟩ := X.leaveW hS (by rw [e0]; exact hk) (v := none) (fun _ => rfl) C.2.2.2.2.2.2.1
  exact ⟨_, _, X.returnOut C.1 C.2.2.2.2.2.1 (C.d hd) hr, hrun, hended, _, locs, rfl, ⟨by show Q _ T.heap; rw [e0]; exact hQ, N0⟩, (by show CHr Z EL0 s.vm s.heap T.vm T.heap; rw [e0]; exact hC.trans (by obtain ⟨a1, hw1⟩ := C.2.2.2.2.2.2.2.2; exact CHv.at X C.2.2.1 hw1 hC.1)), RW.mono hW hK hN⟩
/-! the heap: new, putfield, arrays -/
theorem OW.putF (C : OC p s m meth c Z own nm bytes ml ret) {R0 O n d host Cl : String} {i kk : Nat} {ty : FieldType} {a : Addr} {v old : Value} (w : (Cond.fieldLink own i R0 n d).before a0 Z = true ∨ (Cond.fieldLinkNest own i R0 n d host).before a0 Z = true) (via : Via Z R0 O n d) (F : Fld Z h a O n d old) (E : Exa Z h a Cl)
    (L : (Cond.lays Cl O n d).before a0 Z = true ∨ ((Cond.laysFinal Cl O n d).before a0 Z = true ∧ own = O ∧ nm = "<init>")) (wi : (Cond.instantiable Cl kk).before a0 Z = true) (hty : parseFieldDescriptor d = some ty) (hn : narrow ty v = v) (hf : fits ty v = true) (hna : n0 ≤ a) (hsf : ∀ vm, Z.vm.Alike vm → (∀ x ∈ SA, Safe Z EL0 vm h x) → Safe Z EL0 vm h a) (hd : decode bytes pc = .ok (.putfield i, 3)) (hp : pc + 3 = pc')
    (k : ∀ h', Wr h h' a (slotOf Z O n d) v → OW p l e R s m args below meth c Z SA n0 Q K N h' cl sl (mkF m pc' ls st)) : OW p l e R s m args below meth c Z SA n0 Q K N h cl sl (mkF m pc ls (v :: .ref a :: st)) := fun T locs ⟨vm0, k0, X, N0, e0, bc, bs, hS, hk, hC, hA⟩ => by
  have C := C.lift hS
  subst hp
  obtain ⟨T', h', X', e', W, kk⟩ := RoadKit.putF X C.1 C.2.2.1 C.2.2.2.1 w via e0 F E (L.imp id fun q => ⟨q.1, q.2.1, C.2.2.2.2.2.2.2.1.trans q.2.2⟩) wi hty hn hf (g := mkF m pc ls (v :: .ref a :: st)) rfl rfl (C.d hd)
  obtain ⟨s₂, o, q, r⟩ := k h' W T' _ ⟨vm0, k0, X', Fr.snoc X' N0 hna, e', bc, bs, hS, Nat.le_trans hk (Nat.le_of_eq W.size.symm), hC.trans (CHr.wr W (hsf _ C.2.2.1.alike fun x q => (hA x q).1) hC.1), fun x q => ⟨Safe.wr W (hsf _ C.2.2.1.alike fun x q => (hA x q).1) hC.1 (hA x q).1, by rw [W.size]; exact (hA x q).2⟩⟩
  exact ⟨s₂, o, kk _ q, r⟩
theorem OW.newO (C : OC p s m meth c Z own nm bytes ml ret) {Cl : String} {i nn : Nat} (w : (Cond.classLink own i Cl).before a0 Z = true) (wi : (Cond.instantiable Cl nn).before a0 Z = true) (wz : (Cond.initialized Cl).before a0 Z = true) (hd : decode bytes pc = .ok (.new i, 3)) (hc : cl + 1 ≤ R.cells) (hl : sl + nn ≤ R.slots) (hp : pc + 3 = pc')
    (k : ∀ (a : Addr) h', h.size = a → Ext h h' → Exa Z h' a Cl → (∀ {O nm d : String} {ty : FieldType}, Laid Z a0 Cl O nm d → parseFieldDescriptor d = some ty → Fld Z h' a O nm d (defaultValue ty)) → OW p l e R s m args below meth c Z (a :: SA) n0 Q K N h' (cl + 1) (sl + nn) (mkF m pc' ls (.ref a :: st))) : OW p l e R s m args below meth c Z SA n0 Q K N h cl sl (mkF m pc ls st) := fun T locs ⟨vm0, k0, X, N0, e0, bc, bs, hS, hk, hC, hA⟩ => by
  have C := C.lift hS
  subst hp
  obtain ⟨T', h', X', e', E, A, D, -, kk⟩ := RoadKit.newO X C.1 C.2.2.1 C.2.2.2.1 w wi wz e0 (g := mkF m pc ls st) rfl (C.d hd) hc hl
  obtain ⟨s₂, o, q, r⟩ := k _ h' rfl E A D T' _ ⟨vm0, k0, X', N0, e', hc, hl, hS, Nat.le_trans hk E.1, hC.trans (CHr.ext E hC.1), allS ⟨Safe.ext E hC.1 (Safe.new (Nat.le_refl _)), A.lt⟩ (fun x q => ⟨Safe.ext E hC.1 (hA x q).1, Nat.lt_of_lt_of_le (hA x q).2 E.1⟩)⟩
  exact ⟨s₂, o, kk _ q, r⟩
theorem OW.newP (C : OC p s m meth c Z own nm bytes ml ret) {aty : ArrayType} {n : Int32} {cap : Nat} {ty : FieldType} (hty : newarray.typeOf aty = ty) (w : (Cond.arrayClass ty).before a0 Z = true) (hn : ¬ n < 0) (hcap : n.toNatClampNeg = cap) (hb : cap * 8 ≤ 536870912) (hd : decode bytes pc = .ok (.newarray aty, 2)) (hc : cl + 1 ≤ R.cells) (hl : sl + cap ≤ R.slots) (hp : pc + 2 = pc')
    (k : ∀ (a : Addr) h', h.size = a → Ext h h' → OA Z h' a ty (List.replicate cap (defaultValue ty)) → OW p l e R s m args below meth c Z (a :: SA) n0 Q K N h' (cl + 1) (sl + cap) (mkF m pc' ls (.ref a :: st))) : OW p l e R s m args below meth c Z SA n0 Q K N h cl sl (mkF m pc ls (.int n :: st)) := fun T locs ⟨vm0, k0, X, N0, e0, bc, bs, hS, hk, hC, hA⟩ => by
  have C := C.lift hS
  subst hp hty
  obtain ⟨T', h', cA, X', e', E, A, kk⟩ := RoadKit.newP X C.1 C.2.2.1 w e0 (g := mkF m pc ls (.int n :: st)) rfl (C.d hd) rfl hn (Nat.le_of_eq hcap) hb hc hl
  obtain ⟨s₂, o, q, r⟩ := k _ h' rfl E (OA.new A hcap) T' _ ⟨vm0, k0, X', N0, e', hc, hl, hS, Nat.le_trans hk E.1, hC.trans (CHr.ext E hC.1), allS ⟨Safe.ext E hC.1 (Safe.new (Nat.le_refl _)), A.lt⟩ (fun x q => ⟨Safe.ext E hC.1 (hA x q).1, Nat.lt_of_lt_of_le (hA x q).2 E.1⟩)⟩
  exact ⟨s₂, o, kk _ q, r⟩
theorem OW.lastore (C : OC p s m meth c Z own nm bytes ml ret) {a : Addr} {j : Int32} {x : Int64} {vs : List Value} (F : OA Z h a .long vs) (q : 0 ≤ j.toInt ∧ j.toInt < vs.length) (hna : n0 ≤ a) (hsf : ∀ vm, Z.vm.Alike vm → (∀ x ∈ SA, Safe Z EL0 vm h x) → Safe Z EL0 vm h a) (hd : decode bytes pc = .ok (.lastore, 1)) (hp : pc + 1 = pc')
    (k : ∀ h', Wr h h' a j.toNatClampNeg (.long x) → OW p l e R s m args below meth c Z SA n0 Q K N h' cl sl (mkF m pc' ls st)) : OW p l e R s m args below meth c Z SA n0 Q K N h cl sl (mkF m pc ls (.long x :: .int j :: .ref a :: st)) := fun T locs ⟨vm0, k0, X, N0, e0, bc, bs, hS, hk, hC, hA⟩ => by
  have C := C.lift hS
  subst hp
  obtain ⟨cc, A, r⟩ := F
  obtain ⟨T', h', X', e', W, kk⟩ := stJ X C.1 C.2.2.1 e0 A (OA.inb r q) (g := mkF m pc ls (.long x :: .int j :: .ref a :: st)) rfl rfl (C.d hd)
  obtain ⟨s₂, o, q, r⟩ := k h' W T' _ ⟨vm0, k0, X', Fr.snoc X' N0 hna, e', bc, bs, hS, Nat.le_trans hk (Nat.le_of_eq W.size.symm), hC.trans (CHr.wr W (hsf _ C.2.2.1.alike fun x q => (hA x q).1) hC.1), fun x q => ⟨Safe.wr W (hsf _ C.2.2.1.alike fun x q => (hA x q).1) hC.1 (hA x q).1, by rw [W.size]; exact (hA x q).2⟩⟩
  exact ⟨s₂, o, kk _ q, r⟩
theorem OW.iastore (C : OC p s m meth c Z own nm bytes ml ret) {a : Addr} {j x : Int32} {vs : List Value} (F : OA Z h a .int vs) (q : 0 ≤ j.toInt ∧ j.toInt < vs.length) (hna : n0 ≤ a) (hsf : ∀ vm, Z.vm.Alike vm → (∀ x ∈ SA, Safe Z EL0 vm h x) → Safe Z EL0 vm h a) (hd : decode bytes pc = .ok (.iastore, 1)) (hp : pc + 1 = pc')
    (k : ∀ h', Wr h h' a j.toNatClampNeg (.int x) → OW p l e R s m args below meth c Z SA n0 Q K N h' cl sl (mkF m pc' ls st)) : OW p l e R s m args below meth c Z SA n0 Q K N h cl sl (mkF m pc ls (.int x :: .int j :: .ref a :: st)) := fun T locs ⟨vm0, k0, X, N0, e0, bc, bs, hS, hk, hC, hA⟩ => by
  have C := C.lift hS
  subst hp
  obtain ⟨cc, A, r⟩ := F
  obtain ⟨T', h', X', e', W, kk⟩ := stI X C.1 C.2.2.1 e0 A (OA.inb r q) (g := mkF m pc ls (.int x :: .int j :: .ref a :: st)) rfl rfl (C.d hd)
  obtain ⟨s₂, o, q, r⟩ := k h' W T' _ ⟨vm0, k0, X', Fr.snoc X' N0 hna, e', bc, bs, hS, Nat.le_trans hk (Nat.le_of_eq W.size.symm), hC.trans (CHr.wr W (hsf _ C.2.2.1.alike fun x q => (hA x q).1) hC.1), fun x q => ⟨Safe.wr W (hsf _ C.2.2.1.alike fun x q => (hA x q).1) hC.1 (hA x q).1, by rw [W.size]; exact (hA x q).2⟩⟩
  exact ⟨s₂, o, kk _ q, r⟩
theorem OW.bastore (C : OC p s m meth c Z own nm bytes ml ret) {a : Addr} {j x : Int32} {vs : List Value} (F : OA Z h a .byte vs) (q : 0 ≤ j.toInt ∧ j.toInt < vs.length) (hna : n0 ≤ a) (hsf : ∀ vm, Z.vm.Alike vm → (∀ x ∈ SA, Safe Z EL0 vm h x) → Safe Z EL0 vm h a) (hd : decode bytes pc = .ok (.bastore, 1)) (hp : pc + 1 = pc')
    (k : ∀ h', Wr h h' a j.toNatClampNeg (.int (nar .byte x)) → OW p l e R s m args below meth c Z SA n0 Q K N h' cl sl (mkF m pc' ls st)) : OW p l e R s m args below meth c Z SA n0 Q K N h cl sl (mkF m pc ls (.int x :: .int j :: .ref a :: st)) := fun T locs ⟨vm0, k0, X, N0, e0, bc, bs, hS, hk, hC, hA⟩ => by
  have C := C.lift hS
  subst hp
  obtain ⟨cc, A, r⟩ := F
  obtain ⟨T', h', X', e', W, kk⟩ := stB X C.1 C.2.2.1 e0 A (OA.inb r q) (g := mkF m pc ls (.int x :: .int j :: .ref a :: st)) rfl rfl (C.d hd)
  obtain ⟨s₂, o, q, r⟩ := k h' W T' _ ⟨vm0, k0, X', Fr.snoc X' N0 hna, e', bc, bs, hS, Nat.le_trans hk (Nat.le_of_eq W.size.symm), hC.trans (CHr.wr W (hsf _ C.2.2.1.alike fun x q => (hA x q).1) hC.1), fun x q => ⟨Safe.wr W (hsf _ C.2.2.1.alike fun x q => (hA x q).1) hC.1 (hA x q).1, by rw [W.size]; exact (hA x q).2⟩⟩
  exact ⟨s₂, o, kk _ q, r⟩
theorem OW.castore (C : OC p s m meth c Z own nm bytes ml ret) {a : Addr} {j x : Int32} {vs : List Value} (F : OA Z h a .char vs) (q : 0 ≤ j.toInt ∧ j.toInt < vs.length) (hna : n0 ≤ a) (hsf : ∀ vm, Z.vm.Alike vm → (∀ x ∈ SA, Safe Z EL0 vm h x) → Safe Z EL0 vm h a) (hd : decode bytes pc = .ok (.castore, 1)) (hp : pc + 1 = pc')
    (k : ∀ h', Wr h h' a j.toNatClampNeg (.int (nar .char x)) → OW p l e R s m args below meth c Z SA n0 Q K N h' cl sl (mkF m pc' ls st)) : OW p l e R s m args below meth c Z SA n0 Q K N h cl sl (mkF m pc ls (.int x :: .int j :: .ref a :: st)) := fun T locs ⟨vm0, k0, X, N0, e0, bc, bs, hS, hk, hC, hA⟩ => by
  have C := C.lift hS
  subst hp
  obtain ⟨cc, A, r⟩ := F
  obtain ⟨T', h', X', e', W, kk⟩ := stC X C.1 C.2.2.1 e0 A (OA.inb r q) (g := mkF m pc ls (.int x :: .int j :: .ref a :: st)) rfl rfl (C.d hd)
  obtain ⟨s₂, o, q, r⟩ := k h' W T' _ ⟨vm0, k0, X', Fr.snoc X' N0 hna, e', bc, bs, hS, Nat.le_trans hk (Nat.le_of_eq W.size.symm), hC.trans (CHr.wr W (hsf _ C.2.2.1.alike fun x q => (hA x q).1) hC.1), fun x q => ⟨Safe.wr W (hsf _ C.2.2.1.alike fun x q => (hA x q).1) hC.1 (hA x q).1, by rw [W.size]; exact (hA x q).2⟩⟩
  exact ⟨s₂, o, kk _ q, r⟩
theorem OG.initO (C : OC p s m meth c Z own nm bytes ml ret) {i W : Nat} {a : Addr} (w1 : (Cond.methodLink own i Lib.objectInit).before a0 Z = true) (w2 : (Cond.instanceMethod Lib.objectInit).before a0 Z = true) (w3 : (Cond.code Lib.objectInit ⟨#[0xb1]⟩ 1 none).before a0 Z = true) (hd : decode bytes pc = .ok (.invokespecial i, 3)) (hsz : ls.size = ml) (hf : 1 ≤ R.frames) (hW : (st.map fun v => v.category).sum = W) (hl : W + 12 ≤ R.locals) (hp : pc + 3 = pc') :
    OG p l e R s m args below meth c Z SA n0 h (mkF m pc ls (.ref a :: st)) (mkF m pc' ls st) := by
  subst hp
  rintro T locs cl sl ⟨vm0, k0, X, N0, e0, bc, bs, hS, hk, hC, hA⟩
  have C := C.lift hS
  obtain ⟨T', X', e', k⟩ := RoadKit.initO X C.1 C.2.2.1 C.2.2.2.1 w1 w2 w3 e0 (g := mkF m pc ls (.ref a :: st)) rfl (by rw [C.2.2.2.2.1]; exact hsz) rfl (C.d hd) hf (W := W) (by show 2 * 0 + _ ≤ _; omega) hl
  exact ⟨T', locs, ⟨vm0, k0, X', N0, e', bc, bs, hS, hk, hC, hA⟩, k⟩
/-! contracts and calls -/
theorem own_EWc {a1 : Array Value} {t : String} (_ : EW Z a1 EL0) (w : (Cond.stringLink "java/lang/String" 7 t).before a0 Z = true) (ht : ∀ c ∈ t.toList, c.toNat < 256 := by decide) : EW Z a0 EL0 := EW.cons w ht EW.nil
theorem own_backH {vm0 : Vm} {y : MethodName} {bytes : ByteArray} {maxL : Nat} {ret : Option FieldType} {rm : Room} {len W : Nat} {as' : Array Value} {Q : Option Value → Heap → List Loc → Prop} {a1 : Array Value}
    (hM : MetFree l y (head1 [Cond.code y bytes maxL ret] rm) (fun a U => a = as' ∧ Z.Warmed39 U.vm ∧ U.heap = h ∧ CHv Z EL0 U.vm h ∧ ∀ x ∈ SA, Safe Z EL0 U.vm h x ∧ x < h.size) (fun _ _ _ _ _ => True) (fun _ U o U' => ∃ v L, o = .returned v ∧ Q v U'.heap L ∧ CHr Z EL0 U.vm U.heap U'.vm U'.heap ∧ ReturnedEndW U o U' L rm.cells rm.slots))
    (hZ : Z.Warmed39 vm0) (wc : (Cond.code y bytes maxL ret).before a0 Z = true) (wz : (Cond.initialized y.cls).before a0 Z = true) (hf : rm.frames + 1 ≤ R.frames) (hl : W + (maxL + 11) + rm.locals ≤ R.locals) (hEL : EW Z a1 EL0) (H : CHv Z EL0 vm0 h) (hA : ∀ x ∈ SA, Safe Z EL0 vm0 h x ∧ x < h.size) :
    BackS l R p e below (s.setVm vm0) args y len W (fun A a => a = as' ∧ A.U.heap = h ∧ A.cells + rm.cells ≤ R.cells ∧ A.slots + rm.slots ≤ R.slots)
      (fun A _ v B => ∃ L, Q v B.U.heap L ∧ B.locs = A.locs ++ L ∧ B.cells = A.cells + rm.cells ∧ B.slots = A.slots + rm.slots ∧ CHr Z EL0 vm0 h B.U.vm B.U.heap) :=
  BackS.of_freeW (bytes := bytes) (maxL := maxL) (ret := ret) (E := fun _ first o t L k n => k = rm.cells ∧ n = rm.slots ∧ (∃ v, o = .returned v ∧ Q v t.heap L) ∧ CHr Z EL0 first.vm first.heap t.vm t.heap) hM hf hl
    (fun m meth c A a Y hp => have hU : Z.Warmed39 A.U.vm := wtrans (s := s.setVm vm0) hZ Y.warmed
      ⟨by show (Cond.and _ .tt).before a A.U = true; rw [Cond.before_and, mv hU wc]; rfl, mv hU wc, mv hU wz, hp.2.2.1, hp.2.2.2⟩)
    (fun m meth c A a g mk Y hp => ⟨hp.1, wtrans (s := s.setVm vm0) hZ Y.warmed, hp.2.1, (CHv.at Y hZ hEL H).1, fun x hx => ⟨(CHv.at Y hZ hEL H).safe (hA x hx).2 (hA x hx).1, (hA x hx).2⟩⟩) (fun _ _ _ _ _ _ _ _ _ => trivial)
    (fun _ _ _ _ ⟨v, L, h1, h2, h3, h4⟩ => ⟨L, _, _, h4, rfl, rfl, ⟨v, h1, h2⟩, h3⟩)
    (fun m meth c A a g mk v t L k n Y hp _ _ ⟨e1, e2, ⟨v', e3, e4⟩, e5⟩ => by
      cases e3; subst e1 e2
      refine ⟨L, e4, rfl, rfl, rfl, (CHv.at Y hZ hEL H).trans ?_⟩
      rw [← hp.2.1]; exact e5)
def OM (SA : List Addr) (l : Launch) (Z : State) (y : MethodName) (bytes : ByteArray) (ml : Nat) (ret : Option FieldType) (rm : Room) (n0 : Nat) (h : Heap) (as' : Array Value) (Q : Option Value → Heap → Prop) (K N : Nat) : Prop :=
  ∀ ws : List Cond, MetFree l y (head1 (Cond.code y bytes ml ret :: ws) rm) (fun a U => a = as' ∧ Z.Warmed39 U.vm ∧ U.heap = h ∧ CHv Z EL0 U.vm h ∧ ∀ x ∈ SA, Safe Z EL0 U.vm h x ∧ x < h.size) (fun _ _ _ _ _ => True) (fun _ U o U' => ∃ v L, o = .returned v ∧ (Q v U'.heap ∧ Fr n0 L) ∧ CHr Z EL0 U.vm U.heap U'.vm U'.heap ∧ ReturnedEndW U o U' L K N)
theorem OM.of_body (hEL : EW Z a0 EL0) {y : MethodName} {rm : Room} {as' : Array Value} (hy : plainFor y = true) (hef : ∀ m, entryFrame m as' ml = mkF m 0 ls [])
    (body : ∀ (p : Program) (e : Env) (s : State) (m : MethodId) (below : List Frame) (meth : Method) (c : Code), OC p s m meth c Z y.cls y.name bytes ml ret → OW p l e rm s m as' below meth c Z SA n0 Q K N h 0 0 (mkF m 0 ls [])) : OM SA l Z y bytes ml ret rm n0 h as' Q K N := by
  intro ws
  refine MetFree.of_bodySF hy hisR ?_
  intro p e s m args below meth c s₁ Bd hml0 hP hK
  obtain ⟨rfl, hZ, hh, hCH, hSf⟩ := hP
  have e0 : s₁.heap = h := by rw [← hh, Bd.state]; rfl
  have X0 : Stand p l e rm s m args below meth c s₁ [] 0 0 := Stand.of_body Bd
  rw [hef m]
  exact body p e s m below meth c ⟨Bd.exec, Bd.bytes, hZ, findClass_of_methodNamed Bd.named, hml0, Bd.returns, Bd.notSynchronized, (name_of_methodNamed Bd.named Bd.method).1, _, hEL⟩ s₁ [] ⟨s.vm, 0, X0, Fr.nil n0, e0, Nat.zero_le _, Nat.zero_le _, (State.WarmedH.refl s).since 0, Nat.zero_le _, by subst hh; exact CHr.refl hCH, hSf⟩
theorem OW.callS (C : OC p s m meth c Z own nm bytes ml ret) {i : Nat} {y : MethodName} {bytes' : ByteArray} {ml' W : Nat} {ret' r0 : Option FieldType} {rm : Room} {argsL rest : List Value} {ps : List FieldType} {Q' : Option Value → Heap → Prop}
    (w1 : (Cond.methodLink own i y).before a0 Z = true) (w2 : (Cond.static y).before a0 Z = true) (w3 : (Cond.initialized y.cls).before a0 Z = true) (w4 : (Cond.code y bytes' ml' ret').before a0 Z = true) (hy : y.cls ≠ "java/lang/invoke/MethodHandle" ∧ y.cls ≠ "java/lang/invoke/VarHandle")
    (hM : OM SA' l Z y bytes' ml' ret' rm n0 h argsL.toArray Q' rm.cells rm.slots) (hsa : ∀ x ∈ SA', x ∈ SA) (hd : decode bytes pc = .ok (.invokestatic i, 3)) (hpd : parseMethodDescriptor y.desc = some ⟨ps, r0⟩) (hlen : argsL.length = ps.length) (hst : st = argsL.reverse ++ rest) (hsz : ls.size = ml) (hW : (rest.map fun v => v.category).sum = W)
    (hf : rm.frames + 1 ≤ R.frames) (hlo : W + (ml' + 11) + rm.locals ≤ R.locals) (hcl : cl + rm.cells ≤ R.cells) (hsl : sl + rm.slots ≤ R.slots) (hp : pc + 3 = pc')
    (k : ∀ v h', Q' v h' → OW p l e R s m args below meth c Z SA n0 Q K N h' (cl + rm.cells) (sl + rm.slots) (mkF m pc' ls (v.toList ++ rest))) : OW p l e R s m args below meth c Z SA n0 Q K N h cl sl (mkF m pc ls st) := fun T locs ⟨vm0, k0, X, N0, e0, bc, bs, hS, hk, hC, hA⟩ => by
  have C := C.lift hS
  obtain ⟨a1, hw1⟩ := C.2.2.2.2.2.2.2.2
  subst hp
  obtain ⟨v, vm, ⟨T', L', cl', sl'⟩, -, X', hS', hgr, ⟨Lc, ⟨hQ, hL⟩, e1, e2, e3, e4⟩, kk⟩ := callSS X C.1 C.2.2.2.1 (mv C.2.2.1 w1) (mv C.2.2.1 w2) (mv C.2.2.1 w3) (mv C.2.2.1 w4) hy (own_backH (s := s) (W := W) (Q := fun v h L => Q' v h ∧ Fr n0 L) (hM []) C.2.2.1 w4 w3 hf hlo hw1 hC.1 (fun x q => hA x (hsa x q))) (g := mkF m pc ls st) rfl (by rw [C.2.2.2.2.1]; exact hsz) (argsL := argsL) (rest := rest) (lenOf hpd hlen) hst (by show 2 * 0 + _ ≤ _; omega) (C.d hd) (fun _ _ => ⟨rfl, e0, hcl, hsl⟩)
  dsimp only [Pt.U, Pt.locs, Pt.cells, Pt.slots] at X' hS' hgr e1 e2 e3 e4 kk hQ
  subst e1 e2 e3
  obtain ⟨s₂, o, q, r⟩ := k v _ hQ T' _ ⟨T'.vm, T'.heap.size, X', Fr.app N0 hL, rfl, hcl, hsl, hS.trans hS' (Nat.le_trans hk (by rw [← e0]; exact hgr)), Nat.le_refl _, hC.trans e4, fun x q => ⟨e4.safe (hA x q).2 (hA x q).1, Nat.lt_of_lt_of_le (hA x q).2 e4.2.1⟩⟩
  exact ⟨s₂, o, kk.trans q, r⟩
theorem OG.callS (C : OC p s m meth c Z own nm bytes ml ret) {i : Nat} {y : MethodName} {bytes' : ByteArray} {ml' W fr lo : Nat} {ret' r0 : Option FieldType} {argsL rest : List Value} {ps : List FieldType} {w : Value}
    (w1 : (Cond.methodLink own i y).before a0 Z = true) (w2 : (Cond.static y).before a0 Z = true) (w3 : (Cond.initialized y.cls).before a0 Z = true) (w4 : (Cond.code y bytes' ml' ret').before a0 Z = true) (hy : y.cls ≠ "java/lang/invoke/MethodHandle" ∧ y.cls ≠ "java/lang/invoke/VarHandle")
    (hM : OM SA' l Z y bytes' ml' ret' ⟨fr, 0, 0, lo⟩ n0 h argsL.toArray (fun v h' => v = some w ∧ h' = h) 0 0) (hsa : ∀ x ∈ SA', x ∈ SA) (hd : decode bytes pc = .ok (.invokestatic i, 3)) (hpd : parseMethodDescriptor y.desc = some ⟨ps, r0⟩) (hlen : argsL.length = ps.length) (hst : st = argsL.reverse ++ rest) (hsz : ls.size = ml) (hW : (rest.map fun v => v.category).sum = W)
    (hf : fr + 1 ≤ R.frames) (hlo : W + (ml' + 11) + lo ≤ R.locals) (hp : pc + 3 = pc') :
    OG p l e R s m args below meth c Z SA n0 h (mkF m pc ls st) (mkF m pc' ls (w :: rest)) := fun T locs cl sl ⟨vm0, k0, X, N0, e0, bc, bs, hS, hk, hC, hA⟩ => by
  have C := C.lift hS
  obtain ⟨a1, hw1⟩ := C.2.2.2.2.2.2.2.2
  subst hp
  obtain ⟨v, vm, ⟨T', L', cl', sl'⟩, -, X', hS', hgr, ⟨Lc, ⟨⟨rfl, hQ⟩, hL⟩, e1, e2, e3, e4⟩, kk⟩ := callSS X C.1 C.2.2.2.1 (mv C.2.2.1 w1) (mv C.2.2.1 w2) (mv C.2.2.1 w3) (mv C.2.2.1 w4) hy (own_backH (s := s) (W := W) (Q := fun v h' L => (v = some w ∧ h' = h) ∧ Fr n0 L) (hM []) C.2.2.1 w4 w3 hf hlo hw1 hC.1 (fun x q => hA x (hsa x q))) (g := mkF m pc ls st) rfl (by rw [C.2.2.2.2.1]; exact hsz) (argsL := argsL) (rest := rest) (lenOf hpd hlen) hst (by show 2 * 0 + _ ≤ _; omega) (C.d hd) (fun _ _ => ⟨rfl, e0, bc, bs⟩)
  dsimp only [Pt.U, Pt.locs, Pt.cells, Pt.slots] at X' hS' hgr e1 e2 e3 e4 kk hQ
  subst e1 e2 e3
  exact ⟨T', _, ⟨T'.vm, T'.heap.size, X', Fr.app N0 hL, hQ, bc, bs, hS.trans hS' (Nat.le_trans hk (by rw [← e0]; exact hgr)), Nat.le_of_eq (by rw [hQ]), (by rw [← hQ]; exact hC.trans e4), fun x q => ⟨(by rw [← hQ]; exact e4.safe (hA x q).2 (hA x q).1), (hA x q).2⟩⟩, fun t q => kk.trans q⟩
theorem OG.callSV (C : OC p s m meth c Z own nm bytes ml ret) {i : Nat} {y : MethodName} {bytes' : ByteArray} {ml' W fr lo : Nat} {ret' r0 : Option FieldType} {argsL rest : List Value} {ps : List FieldType}
    (w1 : (Cond.methodLink own i y).before a0 Z = true) (w2 : (Cond.static y).before a0 Z = true) (w3 : (Cond.initialized y.cls).before a0 Z = true) (w4 : (Cond.code y bytes' ml' ret').before a0 Z = true) (hy : y.cls ≠ "java/lang/invoke/MethodHandle" ∧ y.cls ≠ "java/lang/invoke/VarHandle")
    (hM : OM SA' l Z y bytes' ml' ret' ⟨fr, 0, 0, lo⟩ n0 h argsL.toArray (fun v h' => v = none ∧ h' = h) 0 0) (hsa : ∀ x ∈ SA', x ∈ SA) (hd : decode bytes pc = .ok (.invokestatic i, 3)) (hpd : parseMethodDescriptor y.desc = some ⟨ps, r0⟩) (hlen : argsL.length = ps.length) (hst : st = argsL.reverse ++ rest) (hsz : ls.size = ml) (hW : (rest.map fun v => v.category).sum = W)
    (hf : fr + 1 ≤ R.frames) (hlo : W + (ml' + 11) + lo ≤ R.locals) (hp : pc + 3 = pc') :
    OG p l e R s m args below meth c Z SA n0 h (mkF m pc ls st) (mkF m pc' ls rest) := fun T locs cl sl ⟨vm0, k0, X, N0, e0, bc, bs, hS, hk, hC, hA⟩ => by
  have C := C.lift hS
  obtain ⟨a1, hw1⟩ := C.2.2.2.2.2.2.2.2
  subst hp
  obtain ⟨v, vm, ⟨T', L', cl', sl'⟩, -, X', hS', hgr, ⟨Lc, ⟨⟨rfl, hQ⟩, hL⟩, e1, e2, e3, e4⟩, kk⟩ := callSS X C.1 C.2.2.2.1 (mv C.2.2.1 w1) (mv C.2.2.1 w2) (mv C.2.2.1 w3) (mv C.2.2.1 w4) hy (own_backH (s := s) (W := W) (Q := fun v h' L => (v = none ∧ h' = h) ∧ Fr n0 L) (hM []) C.2.2.1 w4 w3 hf hlo hw1 hC.1 (fun x q => hA x (hsa x q))) (g := mkF m pc ls st) rfl (by rw [C.2.2.2.2.1]; exact hsz) (argsL := argsL) (rest := rest) (lenOf hpd hlen) hst (by show 2 * 0 + _ ≤ _; omega) (C.d hd) (fun _ _ => ⟨rfl, e0, bc, bs⟩)
  dsimp only [Pt.U, Pt.locs, Pt.cells, Pt.slots] at X' hS' hgr e1 e2 e3 e4 kk hQ
  subst e1 e2 e3
  exact ⟨T', _, ⟨T'.vm, T'.heap.size, X', Fr.app N0 hL, hQ, bc, bs, hS.trans hS' (Nat.le_trans hk (by rw [← e0]; exact hgr)), Nat.le_of_eq (by rw [hQ]), (by rw [← hQ]; exact hC.trans e4), fun x q => ⟨(by rw [← hQ]; exact e4.safe (hA x q).2 (hA x q).1), (hA x q).2⟩⟩, fun t q => kk.trans q⟩
theorem OW.init (C : OC p s m meth c Z own nm bytes ml ret) {i : Nat} {y : MethodName} {bytes' : ByteArray} {ml' W : Nat} {r0 : Option FieldType} {rm : Room} {argsL rest : List Value} {ps : List FieldType} {Q' : Option Value → Heap → Prop} {a : Addr}
    (w1 : (Cond.methodLink own i y).before a0 Z = true) (w2 : (Cond.instanceMethod y).before a0 Z = true) (w3 : (Cond.initialized y.cls).before a0 Z = true) (w4 : (Cond.code y bytes' ml' none).before a0 Z = true) (hyi : y.name = "<init>") (hy : y.cls ≠ "java/lang/invoke/MethodHandle" ∧ y.cls ≠ "java/lang/invoke/VarHandle")
    (hM : OM SA' l Z y bytes' ml' none rm n0 h (.ref a :: argsL).toArray Q' rm.cells rm.slots) (hsa : ∀ x ∈ SA', x ∈ SA) (hd : decode bytes pc = .ok (.invokespecial i, 3)) (hpd : parseMethodDescriptor y.desc = some ⟨ps, r0⟩) (hlen : argsL.length = ps.length) (hst : st = argsL.reverse ++ .ref a :: rest) (hsz : ls.size = ml) (hW : (rest.map fun v => v.category).sum = W)
    (hf : rm.frames + 1 ≤ R.frames) (hlo : W + (ml' + 11) + rm.locals ≤ R.locals) (hcl : cl + rm.cells ≤ R.cells) (hsl : sl + rm.slots ≤ R.slots) (hp : pc + 3 = pc')
    (k : ∀ v h', Q' v h' → OW p l e R s m args below meth c Z SA n0 Q K N h' (cl + rm.cells) (sl + rm.slots) (mkF m pc' ls (v.toList ++ rest))) : OW p l e R s m args below meth c Z SA n0 Q K N h cl sl (mkF m pc ls st) := fun T locs ⟨vm0, k0, X, N0, e0, bc, bs, hS, hk, hC, hA⟩ => by
  have C := C.lift hS
  obtain ⟨a1, hw1⟩ := C.2.2.2.2.2.2.2.2
  subst hp
  obtain ⟨v, vm, ⟨T', L', cl', sl'⟩, -, X', hS', hgr, ⟨Lc, ⟨hQ, hL⟩, e1, e2, e3, e4⟩, kk⟩ := X.specialBackS C.1 hyi C.2.2.2.1 (mv C.2.2.1 w1) (mv C.2.2.1 w2) (mv C.2.2.1 w4) hy (own_backH (s := s) (W := W) (Q := fun v h L => Q' v h ∧ Fr n0 L) (hM []) C.2.2.1 w4 w3 hf hlo hw1 hC.1 (fun x q => hA x (hsa x q))) (g := mkF m pc ls st) rfl (by rw [C.2.2.2.2.1]; exact hsz) (Steps.refl _) (a := a) (argsL := argsL) (rest := rest) (lenOf hpd hlen) hst (by show 2 * 0 + _ ≤ _; omega) (C.d hd) (fun _ _ => ⟨rfl, e0, hcl, hsl⟩)
  dsimp only [Pt.U, Pt.locs, Pt.cells, Pt.slots] at X' hS' hgr e1 e2 e3 e4 kk hQ
  subst e1 e2 e3
  obtain ⟨s₂, o, q, r⟩ := k v _ hQ T' _ ⟨T'.vm, T'.heap.size, X', Fr.app N0 hL, rfl, hcl, hsl, hS.trans hS' (Nat.le_trans hk (by rw [← e0]; exact hgr)), Nat.le_refl _, hC.trans e4, fun x q => ⟨e4.safe (hA x q).2 (hA x q).1, Nat.lt_of_lt_of_le (hA x q).2 e4.2.1⟩⟩
  exact ⟨s₂, o, kk.trans q, r⟩
theorem OG.init (C : OC p s m meth c Z own nm bytes ml ret) {i : Nat} {y : MethodName} {bytes' : ByteArray} {ml' W fr lo : Nat} {r0 : Option FieldType} {argsL rest : List Value} {ps : List FieldType} {a : Addr}
    (w1 : (Cond.methodLink own i y).before a0 Z = true) (w2 : (Cond.instanceMethod y).before a0 Z = true) (w3 : (Cond.initialized y.cls).before a0 Z = true) (w4 : (Cond.code y bytes' ml' none).before a0 Z = true) (hyi : y.name = "<init>") (hy : y.cls ≠ "java/lang/invoke/MethodHandle" ∧ y.cls ≠ "java/lang/invoke/VarHandle")
    (hM : OM SA' l Z y bytes' ml' none ⟨fr, 0, 0, lo⟩ n0 h (.ref a :: argsL).toArray (fun v h' => v = none ∧ h' = h) 0 0) (hsa : ∀ x ∈ SA', x ∈ SA) (hd : decode bytes pc = .ok (.invokespecial i, 3)) (hpd : parseMethodDescriptor y.desc = some ⟨ps, r0⟩) (hlen : argsL.length = ps.length) (hst : st = argsL.reverse ++ .ref a :: rest) (hsz : ls.size = ml) (hW : (rest.map fun v => v.category).sum = W)
    (hf : fr + 1 ≤ R.frames) (hlo : W + (ml' + 11) + lo ≤ R.locals) (hp : pc + 3 = pc') :
    OG p l e R s m args below meth c Z SA n0 h (mkF m pc ls st) (mkF m pc' ls rest) := fun T locs cl sl ⟨vm0, k0, X, N0, e0, bc, bs, hS, hk, hC, hA⟩ => by
  have C := C.lift hS
  obtain ⟨a1, hw1⟩ := C.2.2.2.2.2.2.2.2
  subst hp
  obtain ⟨v, vm, ⟨T', L', cl', sl'⟩, -, X', hS', hgr, ⟨Lc, ⟨⟨rfl, hQ⟩, hL⟩, e1, e2, e3, e4⟩, kk⟩ := X.specialBackS C.1 hyi C.2.2.2.1 (mv C.2.2.1 w1) (mv C.2.2.1 w2) (mv C.2.2.1 w4) hy (own_backH (s := s) (W := W) (Q := fun v h' L => (v = none ∧ h' = h) ∧ Fr n0 L) (hM []) C.2.2.1 w4 w3 hf hlo hw1 hC.1 (fun x q => hA x (hsa x q))) (g := mkF m pc ls st) rfl (by rw [C.2.2.2.2.1]; exact hsz) (Steps.refl _) (a := a) (argsL := argsL) (rest := rest) (lenOf hpd hlen) hst (by show 2 * 0 + _ ≤ _; omega) (C.d hd) (fun _ _ => ⟨rfl, e0, bc, bs⟩)
  dsimp only [Pt.U, Pt.locs, Pt.cells, Pt.slots] at X' hS' hgr e1 e2 e3 e4 kk hQ
  subst e1 e2 e3
  exact ⟨T', _, ⟨T'.vm, T'.heap.size, X', Fr.app N0 hL, hQ, bc, bs, hS.trans hS' (Nat.le_trans hk (by rw [← e0]; exact hgr)), Nat.le_of_eq (by rw [hQ]), (by rw [← hQ]; exact hC.trans e4), fun x q => ⟨(by rw [← hQ]; exact e4.safe (hA x q).2 (hA x q).1), (hA x q).2⟩⟩, fun t q => kk.trans q⟩
theorem OW.callV (C : OC p s m meth c Z own nm bytes ml ret) {i : Nat} {y : MethodName} {bytes' : ByteArray} {ml' W : Nat} {ret' r0 : Option FieldType} {rm : Room} {argsL rest : List Value} {ps : List FieldType} {Q' : Option Value → Heap → Prop} {a : Addr} {Cl : String}
    (w1 : (Cond.methodLink own i y).before a0 Z = true) (wd : (Cond.declares y).before a0 Z = true) (ws : (Cond.selects Cl y y).before a0 Z = true) (w2 : (Cond.instanceMethod y).before a0 Z = true) (w3 : (Cond.initialized y.cls).before a0 Z = true) (w4 : (Cond.code y bytes' ml' ret').before a0 Z = true) (hy : y.cls ≠ "java/lang/invoke/MethodHandle" ∧ y.cls ≠ "java/lang/invoke/VarHandle") (E : Exa Z h a Cl)
    (hM : OM SA' l Z y bytes' ml' ret' rm n0 h (.ref a :: argsL).toArray Q' rm.cells rm.slots) (hsa : ∀ x ∈ SA', x ∈ SA) (hd : decode bytes pc = .ok (.invokevirtual i, 3)) (hpd : parseMethodDescriptor y.desc = some ⟨ps, r0⟩) (hlen : argsL.length = ps.length) (hst : st = argsL.reverse ++ .ref a :: rest) (hsz : ls.size = ml) (hW : (rest.map fun v => v.category).sum = W)
    (hf : rm.frames + 1 ≤ R.frames) (hlo : W + (ml' + 11) + rm.locals ≤ R.locals) (hcl : cl + rm.cells ≤ R.cells) (hsl : sl + rm.slots ≤ R.slots) (hp : pc + 3 = pc')
    (k : ∀ v h', Q' v h' → OW p l e R s m args below meth c Z SA n0 Q K N h' (cl + rm.cells) (sl + rm.slots) (mkF m pc' ls (v.toList ++ rest))) : OW p l e R s m args below meth c Z SA n0 Q K N h cl sl (mkF m pc ls st) := fun T locs ⟨vm0, k0, X, N0, e0, bc, bs, hS, hk, hC, hA⟩ => by
  have C := C.lift hS
  obtain ⟨a1, hw1⟩ := C.2.2.2.2.2.2.2.2
  subst hp
  obtain ⟨cq, kq, qa, qb, qc⟩ := isOf C.2.2.1 e0 E
  obtain ⟨v, vm, ⟨T', L', cl', sl'⟩, -, X', hS', hgr, ⟨Lc, ⟨hQ, hL⟩, e1, e2, e3, e4⟩, kk⟩ := X.virtualBackS C.1 C.2.2.2.1 (mv C.2.2.1 w1) (mv C.2.2.1 wd) (notFace_of_selects (args := #[]) (mv C.2.2.1 ws)) (mv C.2.2.1 ws) (mv C.2.2.1 w2) hy (own_backH (s := s) (W := W) (Q := fun v h L => Q' v h ∧ Fr n0 L) (hM []) C.2.2.1 w4 w3 hf hlo hw1 hC.1 (fun x q => hA x (hsa x q))) qa qc (g := mkF m pc ls st) rfl (by rw [C.2.2.2.2.1]; exact hsz) (Steps.refl _) (argsL := argsL) (rest := rest) (lenOf hpd hlen) hst (by show 2 * 0 + _ ≤ _; omega) (C.d hd) (fun _ _ => ⟨rfl, e0, hcl, hsl⟩)
  dsimp only [Pt.U, Pt.locs, Pt.cells, Pt.slots] at X' hS' hgr e1 e2 e3 e4 kk hQ
  subst e1 e2 e3
  obtain ⟨s₂, o, q, r⟩ := k v _ hQ T' _ ⟨T'.vm, T'.heap.size, X', Fr.app N0 hL, rfl, hcl, hsl, hS.trans hS' (Nat.le_trans hk (by rw [← e0]; exact hgr)), Nat.le_refl _, hC.trans e4, fun x q => ⟨e4.safe (hA x q).2 (hA x q).1, Nat.lt_of_lt_of_le (hA x q).2 e4.2.1⟩⟩
  exact ⟨s₂, o, kk.trans q, r⟩
theorem OG.callV (C : OC p s m meth c Z own nm bytes ml ret) {i : Nat} {y : MethodName} {bytes' : ByteArray} {ml' W fr lo : Nat} {ret' r0 : Option FieldType} {argsL rest : List Value} {ps : List FieldType} {w : Value} {a : Addr} {Cl : String}
    (w1 : (Cond.methodLink own i y).before a0 Z = true) (wd : (Cond.declares y).before a0 Z = true) (ws : (Cond.selects Cl y y).before a0 Z = true) (w2 : (Cond.instanceMethod y).before a0 Z = true) (w3 : (Cond.initialized y.cls).before a0 Z = true) (w4 : (Cond.code y bytes' ml' ret').before a0 Z = true) (hy : y.cls ≠ "java/lang/invoke/MethodHandle" ∧ y.cls ≠ "java/lang/invoke/VarHandle") (E : Exa Z h a Cl)
    (hM : OM SA' l Z y bytes' ml' ret' ⟨fr, 0, 0, lo⟩ n0 h (.ref a :: argsL).toArray (fun v h' => v = some w ∧ h' = h) 0 0) (hsa : ∀ x ∈ SA', x ∈ SA) (hd : decode bytes pc = .ok (.invokevirtual i, 3)) (hpd : parseMethodDescriptor y.desc = some ⟨ps, r0⟩) (hlen : argsL.length = ps.length) (hst : st = argsL.reverse ++ .ref a :: rest) (hsz : ls.size = ml) (hW : (rest.map fun v => v.category).sum = W)
    (hf : fr + 1 ≤ R.frames) (hlo : W + (ml' + 11) + lo ≤ R.locals) (hp : pc + 3 = pc') :
    OG p l e R s m args below meth c Z SA n0 h (mkF m pc ls st) (mkF m pc' ls (w :: rest)) := fun T locs cl sl ⟨vm0, k0, X, N0, e0, bc, bs, hS, hk, hC, hA⟩ => by
  have C := C.lift hS
  obtain ⟨a1, hw1⟩ := C.2.2.2.2.2.2.2.2
  subst hp
  obtain ⟨cq, kq, qa, qb, qc⟩ := isOf C.2.2.1 e0 E
  obtain ⟨v, vm, ⟨T', L', cl', sl'⟩, -, X', hS', hgr, ⟨Lc, ⟨⟨rfl, hQ⟩, hL⟩, e1, e2, e3, e4⟩, kk⟩ := X.virtualBackS C.1 C.2.2.2.1 (mv C.2.2.1 w1) (mv C.2.2.1 wd) (notFace_of_selects (args := #[]) (mv C.2.2.1 ws)) (mv C.2.2.1 ws) (mv C.2.2.1 w2) hy (own_backH (s := s) (W := W) (Q := fun v h' L => (v = some w ∧ h' = h) ∧ Fr n0 L) (hM []) C.2.2.1 w4 w3 hf hlo hw1 hC.1 (fun x q => hA x (hsa x q))) qa qc (g := mkF m pc ls st) rfl (by rw [C.2.2.2.2.1]; exact hsz) (Steps.refl _) (argsL := argsL) (rest := rest) (lenOf hpd hlen) hst (by show 2 * 0 + _ ≤ _; omega) (C.d hd) (fun _ _ => ⟨rfl, e0, bc, bs⟩)
  dsimp only [Pt.U, Pt.locs, Pt.cells, Pt.slots] at X' hS' hgr e1 e2 e3 e4 kk hQ
  subst e1 e2 e3
  exact ⟨T', _, ⟨T'.vm, T'.heap.size, X', Fr.app N0 hL, hQ, bc, bs, hS.trans hS' (Nat.le_trans hk (by rw [← e0]; exact hgr)), Nat.le_of_eq (by rw [hQ]), (by rw [← hQ]; exact hC.trans e4), fun x q => ⟨(by rw [← hQ]; exact e4.safe (hA x q).2 (hA x q).1), (hA x q).2⟩⟩, fun t q => kk.trans q⟩
theorem OG.callI (C : OC p s m meth c Z own nm bytes ml ret) {i cnt : Nat} {xi y : MethodName} {bytes' : ByteArray} {ml' W fr lo : Nat} {ret' r0 : Option FieldType} {argsL rest : List Value} {ps : List FieldType} {w : Value} {a : Addr} {Cl : String}
    (w1 : (Cond.methodLink own i xi).before a0 Z = true) (wd : (Cond.declares xi).before a0 Z = true) (wf : (Cond.interfaceMethod xi.cls xi.cls xi.name xi.desc).before a0 Z = true) (ws : (Cond.selects Cl xi y).before a0 Z = true) (w2 : (Cond.instanceMethod y).before a0 Z = true) (wp : (Cond.publicMethod y).before a0 Z = true) (wu : (Cond.unhidden Cl xi.name xi.desc).before a0 Z = true) (wc : (Cond.castable Cl xi.cls).before a0 Z = true)
    (w3 : (Cond.initialized y.cls).before a0 Z = true) (w4 : (Cond.code y bytes' ml' ret').before a0 Z = true) (hfa : ((Cond.interfaceMethod xi.cls xi.cls xi.name xi.desc).onTables && (Cond.interfaceMethod xi.cls xi.cls xi.name xi.desc).keepsFace) = true) (hy : xi.cls ≠ "java/lang/invoke/MethodHandle" ∧ xi.cls ≠ "java/lang/invoke/VarHandle") (E : Exa Z h a Cl)
    (hM : OM SA' l Z y bytes' ml' ret' ⟨fr, 0, 0, lo⟩ n0 h (.ref a :: argsL).toArray (fun v h' => v = some w ∧ h' = h) 0 0) (hsa : ∀ x ∈ SA', x ∈ SA) (hd : decode bytes pc = .ok (.invokeinterface i cnt, 5)) (hpd : parseMethodDescriptor xi.desc = some ⟨ps, r0⟩) (hlen : argsL.length = ps.length) (hst : st = argsL.reverse ++ .ref a :: rest) (hsz : ls.size = ml) (hW : (rest.map fun v => v.category).sum = W)
    (hf : fr + 1 ≤ R.frames) (hlo : W + (ml' + 11) + lo ≤ R.locals) (hp : pc + 5 = pc') :
    OG p l e R s m args below meth c Z SA n0 h (mkF m pc ls st) (mkF m pc' ls (w :: rest)) := fun T locs cl sl ⟨vm0, k0, X, N0, e0, bc, bs, hS, hk, hC, hA⟩ => by
  have C := C.lift hS
  obtain ⟨a1, hw1⟩ := C.2.2.2.2.2.2.2.2
  subst hp
  obtain ⟨cq, kq, qa, qb, qc⟩ := isOf C.2.2.1 e0 E
  obtain ⟨v, vm, ⟨T', L', cl', sl'⟩, -, X', hS', hgr, ⟨Lc, ⟨⟨rfl, hQ⟩, hL⟩, e1, e2, e3, e4⟩, kk⟩ := X.interfaceBackS C.1 C.2.2.2.1 (mv C.2.2.1 w1) (mv C.2.2.1 wd) (mv C.2.2.1 wf hfa) (mv C.2.2.1 ws) (mv C.2.2.1 w2) (mv C.2.2.1 wp) (mv C.2.2.1 wu) (mv C.2.2.1 wc) hy (own_backH (s := s) (W := W) (Q := fun v h' L => (v = some w ∧ h' = h) ∧ Fr n0 L) (hM []) C.2.2.1 w4 w3 hf hlo hw1 hC.1 (fun x q => hA x (hsa x q))) qa qb qc (g := mkF m pc ls st) rfl (by rw [C.2.2.2.2.1]; exact hsz) (Steps.refl _) (argsL := argsL) (rest := rest) (lenOf hpd hlen) hst (by show 2 * 0 + _ ≤ _; omega) (C.d hd) (fun _ _ => ⟨rfl, e0, bc, bs⟩)
  dsimp only [Pt.U, Pt.locs, Pt.cells, Pt.slots] at X' hS' hgr e1 e2 e3 e4 kk hQ
  subst e1 e2 e3
  exact ⟨T', _, ⟨T'.vm, T'.heap.size, X', Fr.app N0 hL, hQ, bc, bs, hS.trans hS' (Nat.le_trans hk (by rw [← e0]; exact hgr)), Nat.le_of_eq (by rw [hQ]), (by rw [← hQ]; exact hC.trans e4), fun x q => ⟨(by rw [← hQ]; exact e4.safe (hA x q).2 (hA x q).1), (hA x q).2⟩⟩, fun t q => kk.trans q⟩
theorem own_nb (c : Int32) : nar .byte c.toInt8.toInt32 = c.toInt8.toInt32 := by
  show c.toInt8.toInt32.toInt8.toInt32 = _
  have q := c_i2b c
  have q2 := c_i2b c.toInt8.toInt32
  apply Int32.toInt_inj.mp
  omega
theorem Exa.pl {h : Heap} {a : Addr} {C : String} (F : Exa Z h a C) : ∃ c : Cell, h[a]? = some c ∧ c.vm.isStatics = false := by obtain ⟨c, _, h1, -, -, h4, -⟩ := F; exact ⟨c, h1, h4⟩
theorem OA.pl {a : Addr} {ty : FieldType} {vs : List Value} (F : OA Z h a ty vs) : ∃ c : Cell, h[a]? = some c ∧ c.vm.isStatics = false := by obtain ⟨c, A, -⟩ := F; exact ⟨c, A.1, A.plain⟩
theorem OPl.ext {h h' : Heap} {a : Addr} (F : ∃ c : Cell, h[a]? = some c ∧ c.vm.isStatics = false) (E : Ext h h') : ∃ c : Cell, h'[a]? = some c ∧ c.vm.isStatics = false := by obtain ⟨c, h1, h2⟩ := F; exact ⟨c, E.2 _ _ h1, h2⟩
theorem OPl.wr {h h' : Heap} {a b : Addr} {k : Nat} {v : Value} (F : ∃ c : Cell, h[a]? = some c ∧ c.vm.isStatics = false) (W : Wr h h' b k v) : ∃ c : Cell, h'[a]? = some c ∧ c.vm.isStatics = false := by
  obtain ⟨c, h1, h2⟩ := F
  obtain ⟨c', e1, -, e3, -⟩ := wr_at W h1
  exact ⟨c', e1, by rw [e3]; exact h2⟩
theorem OPl.keep {h h' : Heap} {a : Addr} {ws : List Addr} (F : ∃ c : Cell, h[a]? = some c ∧ c.vm.isStatics = false) (K : Keep h h' ws) : ∃ c : Cell, h'[a]? = some c ∧ c.vm.isStatics = false := by
  obtain ⟨c, h1, h2⟩ := F
  obtain ⟨c', e1, -, e3, -⟩ := K.2.2 _ _ h1
  exact ⟨c', e1, by rw [e3]; exact h2⟩
theorem Sta.kp {h h' : Heap} {C n d : String} {v : Value} {ws : List Addr} (F : Sta Z h C n d v) (K : Keep h h' ws) (q : ∀ a ∈ ws, ∃ c : Cell, h[a]? = some c ∧ c.vm.isStatics = false) : Sta Z h' C n d v := by
  obtain ⟨cf, i, k, f, st, cell, h1, h2, h3, h4, h5, h6, h7⟩ := F
  refine ⟨cf, i, k, f, st, cell, h1, h2, h3, h4, K.2.1 st cell h5 (fun hm => ?_), h6, h7⟩
  obtain ⟨c, e1, e2⟩ := q st hm
  cases h5.symm.trans e1
  rw [h6] at e2; cases e2
theorem OW.join {P : Value → Heap → Prop} {f : Value → JFrame} {cl' sl' : Nat} (b : (∀ v h', P v h' → OW p l e R s m args below meth c Z SA n0 Q K N h' cl' sl' (f v)) → OW p l e R s m args below meth c Z SA n0 Q K N h cl sl g) (k : ∀ v h', P v h' → OW p l e R s m args below meth c Z SA n0 Q K N h' cl' sl' (f v)) : OW p l e R s m args below meth c Z SA n0 Q K N h cl sl g := b k
theorem own_nr {v : Value} {t : FieldType} (q : v.isRef = true) (ht : t.isReference = true) : narrow t v = v ∧ fits t v = true := by
  rcases ref_cases q with rfl | ⟨_, rfl⟩ <;> cases t <;> first | (cases ht; done) | exact ⟨rfl, rfl⟩
/-! what a branch over two longs asks -/
theorem tltL {x y : Int64} (q : x < y) : ifCond.holds .lt (lcmpW x y) = true ∧ ifCond.holds .ge (lcmpW x y) = false ∧ ifCond.holds .gt (lcmpW y x) = true ∧ ifCond.holds .le (lcmpW y x) = false := by
  have a := (lw_lt x y).mpr q
  have b := (lw_gt y x).mpr q
  rw [if0, if0, if0, if0]; exact ⟨(tlt a).1, (tlt a).2.1, (tlt b).2.2.1, (tlt b).2.2.2⟩
theorem fltL {x y : Int64} (q : ¬ x < y) : ifCond.holds .lt (lcmpW x y) = false ∧ ifCond.holds .ge (lcmpW x y) = true ∧ ifCond.holds .gt (lcmpW y x) = false ∧ ifCond.holds .le (lcmpW y x) = true := by
  have a := fun z => q ((lw_lt x y).mp z)
  have b := fun z => q ((lw_gt y x).mp z)
  rw [if0, if0, if0, if0]; exact ⟨(flt a).1, (flt a).2.1, (flt b).2.2.1, (flt b).2.2.2⟩
theorem teqL {x y : Int64} (q : x = y) : ifCond.holds .eq (lcmpW x y) = true ∧ ifCond.holds .ne (lcmpW x y) = false := by
  have a := (lw_eq x y).mpr q
  rw [if0, if0]; exact teq a
theorem feqL {x y : Int64} (q : ¬ x = y) : ifCond.holds .eq (lcmpW x y) = false ∧ ifCond.holds .ne (lcmpW x y) = true := by
  have a := fun z => q ((lw_eq x y).mp z)
  rw [if0, if0]; exact feq a
theorem tlt0 {x y : Int32} (q : x < y) : if_icmp.holds .lt x y = true ∧ if_icmp.holds .ge x y = false ∧ if_icmp.holds .gt y x = true ∧ if_icmp.holds .le y x = false := tlt q
theorem OW.ldcH (C : OC p s m meth c Z own nm bytes ml ret) {i : Nat} (hown : own = "java/lang/String") (hi : i = 7) (w : (Cond.stringLink own i "").before a0 Z = true) (wS : ∀ a ∈ Bundle.stringAtoms, a.before a0 Z = true) (hc : cl + 2 ≤ R.cells) (hl : sl + 4 ≤ R.slots) (hd : decode bytes pc = .ok (.ldc i, 2)) (hp : pc + 2 = pc')
    (k : ∀ (a b : Addr) h', Ext h h' → Exa Z h' a "java/lang/String" → Fld Z h' a "java/lang/String" "coder" "B" (.int 0) → Fld Z h' a "java/lang/String" "value" "[B" (.ref b) → OA Z h' b .byte [] → (∀ x ∈ SA, x ≠ a ∧ x ≠ b) → OW p l e R s m args below meth c Z SA n0 Q K N h' (cl + 2) (sl + 4) (mkF m pc' ls (.ref a :: st))) : OW p l e R s m args below meth c Z SA n0 Q K N h cl sl (mkF m pc ls st) := fun T locs ⟨vm0, k0, X, N0, e0, bc, bs, hS, hk, hC, hA⟩ => by
  subst hp hown hi
  have C' := C.lift hS
  obtain ⟨a1, hw1⟩ := C.2.2.2.2.2.2.2.2
  obtain ⟨a, T', h', k1, b, kc, X', e', E, hS', hk', -, -, f1, f2, f3, f4, -, -, f5, -, f6, st'⟩ := ldcCH X C.1 C'.2.2.1 C'.2.2.2.1 (a0 := a0) w wS e0 hS hk (EL := EL0) (own_EWc hw1 w) (List.mem_singleton.mpr rfl) hC.1 (vs := []) (z := 0) ⟨fun c hc => (by simp at hc), rfl⟩ (by decide) (by decide) (g := mkF m pc ls st) rfl (C.d hd) (n := 0) (by decide) (by decide) hc hl
  have A : OA Z h' b .byte [] := by
    obtain ⟨cc, A, -, r2, -⟩ := f4
    refine ⟨cc, A, ?_⟩
    have : cc.slots.size = 0 := by rw [r2]; decide
    simpa using this
  have hA' : ∀ x ∈ SA, Safe Z EL0 T'.vm h' x ∧ x < h'.size := fun x q => ⟨f5.safe (hA x q).2 (hA x q).1, Nat.lt_of_lt_of_le (hA x q).2 E.1⟩
  obtain ⟨s₂, o, q, r⟩ := k a b h' E f1 f2 f3 A (fun x q => f6 x (hA' x q).1) T' locs ⟨T'.vm, k1, X', N0, e', hc, hl, hS', hk', hC.trans f5, hA'⟩
  exact ⟨s₂, o, st' _ q, r⟩
theorem allN : ∀ x ∈ ([] : List Addr), x ∈ SA := fun _ q => absurd q List.not_mem_nil
theorem allC {a : Addr} {i : Nat} (q : SA[i]? = some a) (r : ∀ x ∈ SA', x ∈ SA) : ∀ x ∈ a :: SA', x ∈ SA := fun x k => by
  rcases List.mem_cons.mp k with rfl | k
  · exact List.mem_of_getElem? q
  · exact r _ k
theorem own_sfa {a : Addr} {ty : FieldType} {vs : List Value} {vm : Vm} (hal : Z.vm.Alike vm) (F : OA Z h a ty vs) (ht : ty ≠ .byte) : Safe Z EL0 vm h a := by obtain ⟨cc, A, -⟩ := F; exact Safe.arr hal A ht
end Own
end Jvm.RoadKit
namespace Jvm.Pilot.@@N@@
open Jvm Jvm.ClassFile Sem Op Lib Jvm.Free Jvm.Stand Jvm.LawKit Jvm.RoadKit Bundle Jvm.Pilot.@@N@@.Jvm.D
abbrev HW (a0 : Array Value) (Z : State) : Prop := ∀ d ∈ tables_1, d.before a0 Z = true
theorem w0 {a0 : Array Value} {Z : State} (hw : HW a0 Z) : (Jvm.Cond.constant "com/example/gleaner/gleaner/harvest/ValidatorsIsEmptyPinLaw" (7 : Nat) (2147483647 : Int32)).before a0 Z = true := hw _ (List.mem_of_getElem? (i := 0) rfl)
theorem w1 {a0 : Array Value} {Z : State} (hw : HW a0 Z) : (Jvm.Cond.methodLink "com/example/gleaner/gleaner/harvest/ValidatorsIsEmptyPinLaw" (8 : Nat) ({ cls := "com/example/gleaner/gleaner/harvest/ValidatorsIsEmptyPinLaw", name := "make", desc := "(II)Ljava/lang/String;" } : Jvm.MethodName)).before a0 Z = true := hw _ (List.mem_of_getElem? (i := 1) rfl)
theorem w2 {a0 : Array Value} {Z : State} (hw : HW a0 Z) : (Jvm.Cond.static ({ cls := "com/example/gleaner/gleaner/harvest/ValidatorsIsEmptyPinLaw", name := "make", desc := "(II)Ljava/lang/String;" } : Jvm.MethodName)).before a0 Z = true := hw _ (List.mem_of_getElem? (i := 2) rfl)
theorem w3 {a0 : Array Value} {Z : State} (hw : HW a0 Z) : (Jvm.Cond.initialized "com/example/gleaner/gleaner/harvest/ValidatorsIsEmptyPinLaw").before a0 Z = true := hw _ (List.mem_of_getElem? (i := 3) rfl)
theorem w4 {a0 : Array Value} {Z : State} (hw : HW a0 Z) : (Jvm.Cond.code ({ cls := "com/example/gleaner/gleaner/harvest/ValidatorsIsEmptyPinLaw", name := "make", desc := "(II)Ljava/lang/String;" } : Jvm.MethodName) method_3_code (4 : Nat) (Option.some (Jvm.ClassFile.FieldType.object "java/lang/String"))).before a0 Z = true := hw _ (List.mem_of_getElem? (i := 4) rfl)
theorem w5 {a0 : Array Value} {Z : State} (hw : HW a0 Z) : (Jvm.Cond.classLink "com/example/gleaner/gleaner/harvest/ValidatorsIsEmptyPinLaw" (23 : Nat) "java/lang/String").before a0 Z = true := hw _ (List.mem_of_getElem? (i := 5) rfl)
theorem w6 {a0 : Array Value} {Z : State} (hw : HW a0 Z) : (Jvm.Cond.instantiable "java/lang/String" (4 : Nat)).before a0 Z = true := hw _ (List.mem_of_getElem? (i := 6) rfl)
theorem w7 {a0 : Array Value} {Z : State} (hw : HW a0 Z) : (Jvm.Cond.initialized "java/lang/String").before a0 Z = true := hw _ (List.mem_of_getElem? (i := 7) rfl)
theorem w8 {a0 : Array Value} {Z : State} (hw : HW a0 Z) : (Jvm.Cond.arrayClass Jvm.ClassFile.FieldType.char).before a0 Z = true := hw _ (List.mem_of_getElem? (i := 8) rfl)
theorem w9 {a0 : Array Value} {Z : State} (hw : HW a0 Z) : (Jvm.Cond.methodLink "com/example/gleaner/gleaner/harvest/ValidatorsIsEmptyPinLaw" (25 : Nat) ({ cls := "java/lang/String", name := "<init>", desc := "([C)V" } : Jvm.MethodName)).before a0 Z = true := hw _ (List.mem_of_getElem? (i := 9) rfl)
theorem w10 {a0 : Array Value} {Z : State} (hw : HW a0 Z) : (Jvm.Cond.instanceMethod ({ cls := "java/lang/String", name := "<init>", desc := "([C)V" } : Jvm.MethodName)).before a0 Z = true := hw _ (List.mem_of_getElem? (i := 10) rfl)
theorem w11 {a0 : Array Value} {Z : State} (hw : HW a0 Z) : (Jvm.Cond.code ({ cls := "java/lang/String", name := "<init>", desc := "([C)V" } : Jvm.MethodName) jdk_42_method_3_code (2 : Nat) (Option.none : Option Jvm.ClassFile.FieldType)).before a0 Z = true := hw _ (List.mem_of_getElem? (i := 11) rfl)
theorem w12 {a0 : Array Value} {Z : State} (hw : HW a0 Z) : (Jvm.Cond.methodLink "java/lang/String" (27 : Nat) ({ cls := "java/lang/String", name := "<init>", desc := "([CIILjava/lang/Void;)V" } : Jvm.MethodName)).before a0 Z = true := hw _ (List.mem_of_getElem? (i := 12) rfl)
theorem w13 {a0 : Array Value} {Z : State} (hw : HW a0 Z) : (Jvm.Cond.instanceMethod ({ cls := "java/lang/String", name := "<init>", desc := "([CIILjava/lang/Void;)V" } : Jvm.MethodName)).before a0 Z = true := hw _ (List.mem_of_getElem? (i := 13) rfl)
theorem w15 {a0 : Array Value} {Z : State} (hw : HW a0 Z) : (Jvm.Cond.code ({ cls := "java/lang/String", name := "<init>", desc := "([CIILjava/lang/Void;)V" } : Jvm.MethodName) jdk_42_method_149_code (6 : Nat) (Option.none : Option Jvm.ClassFile.FieldType)).before a0 Z = true := hw _ (List.mem_of_getElem? (i := 15) rfl)
theorem w16 {a0 : Array Value} {Z : State} (hw : HW a0 Z) : (Jvm.Cond.methodLink "java/lang/String" (1 : Nat) ({ cls := "java/lang/Object", name := "<init>", desc := "()V" } : Jvm.MethodName)).before a0 Z = true := hw _ (List.mem_of_getElem? (i := 16) rfl)
theorem w17 {a0 : Array Value} {Z : State} (hw : HW a0 Z) : (Jvm.Cond.instanceMethod ({ cls := "java/lang/Object", name := "<init>", desc := "()V" } : Jvm.MethodName)).before a0 Z = true := hw _ (List.mem_of_getElem? (i := 17) rfl)
theorem w18 {a0 : Array Value} {Z : State} (hw : HW a0 Z) : (Jvm.Cond.code ({ cls := "java/lang/Object", name := "<init>", desc := "()V" } : Jvm.MethodName) object_method_1_code (1 : Nat) (Option.none : Option Jvm.ClassFile.FieldType)).before a0 Z = true := hw _ (List.mem_of_getElem? (i := 18) rfl)
theorem w19 {a0 : Array Value} {Z : State} (hw : HW a0 Z) : (Jvm.Cond.stringLink "java/lang/String" (7 : Nat) "").before a0 Z = true := hw _ (List.mem_of_getElem? (i := 19) rfl)
theorem w20 {a0 : Array Value} {Z : State} (hw : HW a0 Z) : (Jvm.Cond.arrayClass Jvm.ClassFile.FieldType.byte).before a0 Z = true := hw _ (List.mem_of_getElem? (i := 20) rfl)
theorem w21 {a0 : Array Value} {Z : State} (hw : HW a0 Z) : (Jvm.Cond.laysFinal "java/lang/String" "java/lang/String" "value" "[B").before a0 Z = true := hw _ (List.mem_of_getElem? (i := 21) rfl)
theorem w22 {a0 : Array Value} {Z : State} (hw : HW a0 Z) : (Jvm.Cond.laysFinal "java/lang/String" "java/lang/String" "coder" "B").before a0 Z = true := hw _ (List.mem_of_getElem? (i := 22) rfl)
theorem w23 {a0 : Array Value} {Z : State} (hw : HW a0 Z) : (Jvm.Cond.soleField "java/lang/String" "value").before a0 Z = true := hw _ (List.mem_of_getElem? (i := 23) rfl)
theorem w24 {a0 : Array Value} {Z : State} (hw : HW a0 Z) : (Jvm.Cond.soleField "java/lang/String" "coder").before a0 Z = true := hw _ (List.mem_of_getElem? (i := 24) rfl)
theorem w25 {a0 : Array Value} {Z : State} (hw : HW a0 Z) : (Jvm.Cond.fieldLink "java/lang/String" (9 : Nat) "java/lang/String" "value" "[B").before a0 Z = true := hw _ (List.mem_of_getElem? (i := 25) rfl)
theorem w26 {a0 : Array Value} {Z : State} (hw : HW a0 Z) : (Jvm.Cond.fieldLink "java/lang/String" (15 : Nat) "java/lang/String" "coder" "B").before a0 Z = true := hw _ (List.mem_of_getElem? (i := 26) rfl)
theorem w27 {a0 : Array Value} {Z : State} (hw : HW a0 Z) : (Jvm.Cond.fieldLink "java/lang/String" (38 : Nat) "java/lang/String" "COMPACT_STRINGS" "Z").before a0 Z = true := hw _ (List.mem_of_getElem? (i := 27) rfl)
theorem w28 {a0 : Array Value} {Z : State} (hw : HW a0 Z) : (Jvm.Cond.methodLink "java/lang/String" (177 : Nat) ({ cls := "java/lang/StringUTF16", name := "compress", desc := "([CII)[B" } : Jvm.MethodName)).before a0 Z = true := hw _ (List.mem_of_getElem? (i := 28) rfl)
theorem w29 {a0 : Array Value} {Z : State} (hw : HW a0 Z) : (Jvm.Cond.static ({ cls := "java/lang/StringUTF16", name := "compress", desc := "([CII)[B" } : Jvm.MethodName)).before a0 Z = true := hw _ (List.mem_of_getElem? (i := 29) rfl)
theorem w30 {a0 : Array Value} {Z : State} (hw : HW a0 Z) : (Jvm.Cond.initialized "java/lang/StringUTF16").before a0 Z = true := hw _ (List.mem_of_getElem? (i := 30) rfl)
theorem w31 {a0 : Array Value} {Z : State} (hw : HW a0 Z) : (Jvm.Cond.code ({ cls := "java/lang/StringUTF16", name := "compress", desc := "([CII)[B" } : Jvm.MethodName) jdk_52_method_16_code (6 : Nat) (Option.some (Jvm.ClassFile.FieldType.array Jvm.ClassFile.FieldType.byte))).before a0 Z = true := hw _ (List.mem_of_getElem? (i := 31) rfl)
theorem w32 {a0 : Array Value} {Z : State} (hw : HW a0 Z) : (Jvm.Cond.methodLink "java/lang/StringUTF16" (115 : Nat) ({ cls := "java/lang/StringUTF16", name := "compress", desc := "([CI[BII)I" } : Jvm.MethodName)).before a0 Z = true := hw _ (List.mem_of_getElem? (i := 32) rfl)
theorem w33 {a0 : Array Value} {Z : State} (hw : HW a0 Z) : (Jvm.Cond.static ({ cls := "java/lang/StringUTF16", name := "compress", desc := "([CI[BII)I" } : Jvm.MethodName)).before a0 Z = true := hw _ (List.mem_of_getElem? (i := 33) rfl)
theorem w34 {a0 : Array Value} {Z : State} (hw : HW a0 Z) : (Jvm.Cond.code ({ cls := "java/lang/StringUTF16", name := "compress", desc := "([CI[BII)I" } : Jvm.MethodName) jdk_52_method_21_code (7 : Nat) (Option.some Jvm.ClassFile.FieldType.int)).before a0 Z = true := hw _ (List.mem_of_getElem? (i := 34) rfl)
theorem w35 {a0 : Array Value} {Z : State} (hw : HW a0 Z) : (Jvm.Cond.methodLink "java/lang/String" (47 : Nat) ({ cls := "java/lang/StringUTF16", name := "coderFromArrayLen", desc := "([BI)B" } : Jvm.MethodName)).before a0 Z = true := hw _ (List.mem_of_getElem? (i := 35) rfl)
theorem w36 {a0 : Array Value} {Z : State} (hw : HW a0 Z) : (Jvm.Cond.static ({ cls := "java/lang/StringUTF16", name := "coderFromArrayLen", desc := "([BI)B" } : Jvm.MethodName)).before a0 Z = true := hw _ (List.mem_of_getElem? (i := 36) rfl)
theorem w37 {a0 : Array Value} {Z : State} (hw : HW a0 Z) : (Jvm.Cond.code ({ cls := "java/lang/StringUTF16", name := "coderFromArrayLen", desc := "([BI)B" } : Jvm.MethodName) jdk_52_method_15_code (2 : Nat) (Option.some Jvm.ClassFile.FieldType.byte)).before a0 Z = true := hw _ (List.mem_of_getElem? (i := 37) rfl)
theorem w38 {a0 : Array Value} {Z : State} (hw : HW a0 Z) : (Jvm.Cond.classLink "com/example/gleaner/gleaner/harvest/ValidatorsIsEmptyPinLaw" (14 : Nat) "com/example/gleaner/gleaner/harvest/Validators").before a0 Z = true := hw _ (List.mem_of_getElem? (i := 38) rfl)
theorem w39 {a0 : Array Value} {Z : State} (hw : HW a0 Z) : (Jvm.Cond.instantiable "com/example/gleaner/gleaner/harvest/Validators" (2 : Nat)).before a0 Z = true := hw _ (List.mem_of_getElem? (i := 39) rfl)
theorem w40 {a0 : Array Value} {Z : State} (hw : HW a0 Z) : (Jvm.Cond.initialized "com/example/gleaner/gleaner/harvest/Validators").before a0 Z = true := hw _ (List.mem_of_getElem? (i := 40) rfl)
theorem w41 {a0 : Array Value} {Z : State} (hw : HW a0 Z) : (Jvm.Cond.methodLink "com/example/gleaner/gleaner/harvest/ValidatorsIsEmptyPinLaw" (16 : Nat) ({ cls := "com/example/gleaner/gleaner/harvest/Validators", name := "<init>", desc := "(Ljava/lang/String;Ljava/lang/String;)V" } : Jvm.MethodName)).before a0 Z = true := hw _ (List.mem_of_getElem? (i := 41) rfl)
theorem w42 {a0 : Array Value} {Z : State} (hw : HW a0 Z) : (Jvm.Cond.instanceMethod ({ cls := "com/example/gleaner/gleaner/harvest/Validators", name := "<init>", desc := "(Ljava/lang/String;Ljava/lang/String;)V" } : Jvm.MethodName)).before a0 Z = true := hw _ (List.mem_of_getElem? (i := 42) rfl)
theorem w43 {a0 : Array Value} {Z : State} (hw : HW a0 Z) : (Jvm.Cond.code ({ cls := "com/example/gleaner/gleaner/harvest/Validators", name := "<init>", desc := "(Ljava/lang/String;Ljava/lang/String;)V" } : Jvm.MethodName) prog_14_method_1_code (3 : Nat) (Option.none : Option Jvm.ClassFile.FieldType)).before a0 Z = true := hw _ (List.mem_of_getElem? (i := 43) rfl)
theorem w44 {a0 : Array Value} {Z : State} (hw : HW a0 Z) : (Jvm.Cond.methodLink "com/example/gleaner/gleaner/harvest/Validators" (1 : Nat) ({ cls := "java/lang/Record", name := "<init>", desc := "()V" } : Jvm.MethodName)).before a0 Z = true := hw _ (List.mem_of_getElem? (i := 44) rfl)
theorem w45 {a0 : Array Value} {Z : State} (hw : HW a0 Z) : (Jvm.Cond.instanceMethod ({ cls := "java/lang/Record", name := "<init>", desc := "()V" } : Jvm.MethodName)).before a0 Z = true := hw _ (List.mem_of_getElem? (i := 45) rfl)
theorem w47 {a0 : Array Value} {Z : State} (hw : HW a0 Z) : (Jvm.Cond.initialized "java/lang/Record").before a0 Z = true := hw _ (List.mem_of_getElem? (i := 47) rfl)
theorem w48 {a0 : Array Value} {Z : State} (hw : HW a0 Z) : (Jvm.Cond.code ({ cls := "java/lang/Record", name := "<init>", desc := "()V" } : Jvm.MethodName) jdk_30_method_1_code (1 : Nat) (Option.none : Option Jvm.ClassFile.FieldType)).before a0 Z = true := hw _ (List.mem_of_getElem? (i := 48) rfl)
theorem w49 {a0 : Array Value} {Z : State} (hw : HW a0 Z) : (Jvm.Cond.methodLink "java/lang/Record" (1 : Nat) ({ cls := "java/lang/Object", name := "<init>", desc := "()V" } : Jvm.MethodName)).before a0 Z = true := hw _ (List.mem_of_getElem? (i := 49) rfl)
theorem w50 {a0 : Array Value} {Z : State} (hw : HW a0 Z) : (Jvm.Cond.fieldLink "com/example/gleaner/gleaner/harvest/Validators" (7 : Nat) "com/example/gleaner/gleaner/harvest/Validators" "lastModified" "Ljava/lang/String;").before a0 Z = true := hw _ (List.mem_of_getElem? (i := 50) rfl)
theorem w51 {a0 : Array Value} {Z : State} (hw : HW a0 Z) : (Jvm.Cond.laysFinal "com/example/gleaner/gleaner/harvest/Validators" "com/example/gleaner/gleaner/harvest/Validators" "lastModified" "Ljava/lang/String;").before a0 Z = true := hw _ (List.mem_of_getElem? (i := 51) rfl)
theorem w52 {a0 : Array Value} {Z : State} (hw : HW a0 Z) : (Jvm.Cond.fieldLink "com/example/gleaner/gleaner/harvest/Validators" (13 : Nat) "com/example/gleaner/gleaner/harvest/Validators" "etag" "Ljava/lang/String;").before a0 Z = true := hw _ (List.mem_of_getElem? (i := 52) rfl)
theorem w53 {a0 : Array Value} {Z : State} (hw : HW a0 Z) : (Jvm.Cond.laysFinal "com/example/gleaner/gleaner/harvest/Validators" "com/example/gleaner/gleaner/harvest/Validators" "etag" "Ljava/lang/String;").before a0 Z = true := hw _ (List.mem_of_getElem? (i := 53) rfl)
theorem w54 {a0 : Array Value} {Z : State} (hw : HW a0 Z) : (Jvm.Cond.methodLink "com/example/gleaner/gleaner/harvest/ValidatorsIsEmptyPinLaw" (19 : Nat) ({ cls := "com/example/gleaner/gleaner/harvest/Validators", name := "isEmpty", desc := "()Z" } : Jvm.MethodName)).before a0 Z = true := hw _ (List.mem_of_getElem? (i := 54) rfl)
theorem w55 {a0 : Array Value} {Z : State} (hw : HW a0 Z) : (Jvm.Cond.declares ({ cls := "com/example/gleaner/gleaner/harvest/Validators", name := "isEmpty", desc := "()Z" } : Jvm.MethodName)).before a0 Z = true := hw _ (List.mem_of_getElem? (i := 55) rfl)
theorem w56 {a0 : Array Value} {Z : State} (hw : HW a0 Z) : (Jvm.Cond.instanceMethod ({ cls := "com/example/gleaner/gleaner/harvest/Validators", name := "isEmpty", desc := "()Z" } : Jvm.MethodName)).before a0 Z = true := hw _ (List.mem_of_getElem? (i := 56) rfl)
theorem w57 {a0 : Array Value} {Z : State} (hw : HW a0 Z) : (Jvm.Cond.selects "com/example/gleaner/gleaner/harvest/Validators" ({ cls := "com/example/gleaner/gleaner/harvest/Validators", name := "isEmpty", desc := "()Z" } : Jvm.MethodName) ({ cls := "com/example/gleaner/gleaner/harvest/Validators", name := "isEmpty", desc := "()Z" } : Jvm.MethodName)).before a0 Z = true := hw _ (List.mem_of_getElem? (i := 57) rfl)
theorem w58 {a0 : Array Value} {Z : State} (hw : HW a0 Z) : (Jvm.Cond.code ({ cls := "com/example/gleaner/gleaner/harvest/Validators", name := "isEmpty", desc := "()Z" } : Jvm.MethodName) prog_14_method_4_code (1 : Nat) (Option.some Jvm.ClassFile.FieldType.boolean)).before a0 Z = true := hw _ (List.mem_of_getElem? (i := 58) rfl)
theorem w59 {a0 : Array Value} {Z : State} (hw : HW a0 Z) : (Jvm.Cond.methodLink "com/example/gleaner/gleaner/harvest/Validators" (47 : Nat) ({ cls := "java/lang/String", name := "isEmpty", desc := "()Z" } : Jvm.MethodName)).before a0 Z = true := hw _ (List.mem_of_getElem? (i := 59) rfl)
theorem w60 {a0 : Array Value} {Z : State} (hw : HW a0 Z) : (Jvm.Cond.declares ({ cls := "java/lang/String", name := "isEmpty", desc := "()Z" } : Jvm.MethodName)).before a0 Z = true := hw _ (List.mem_of_getElem? (i := 60) rfl)
theorem w61 {a0 : Array Value} {Z : State} (hw : HW a0 Z) : (Jvm.Cond.instanceMethod ({ cls := "java/lang/String", name := "isEmpty", desc := "()Z" } : Jvm.MethodName)).before a0 Z = true := hw _ (List.mem_of_getElem? (i := 61) rfl)
theorem w62 {a0 : Array Value} {Z : State} (hw : HW a0 Z) : (Jvm.Cond.selects "java/lang/String" ({ cls := "java/lang/String", name := "isEmpty", desc := "()Z" } : Jvm.MethodName) ({ cls := "java/lang/String", name := "isEmpty", desc := "()Z" } : Jvm.MethodName)).before a0 Z = true := hw _ (List.mem_of_getElem? (i := 62) rfl)
theorem w63 {a0 : Array Value} {Z : State} (hw : HW a0 Z) : (Jvm.Cond.code ({ cls := "java/lang/String", name := "isEmpty", desc := "()Z" } : Jvm.MethodName) jdk_42_method_55_code (1 : Nat) (Option.some Jvm.ClassFile.FieldType.boolean)).before a0 Z = true := hw _ (List.mem_of_getElem? (i := 63) rfl)
theorem pd_0 : parseMethodDescriptor "([CIILjava/lang/Void;)V" = some ⟨[(.array .char), .int, .int, (.object "java/lang/Void")], none⟩ := by decide +kernel
theorem pd_1 : parseMethodDescriptor "([CI[BII)I" = some ⟨[(.array .char), .int, (.array .byte), .int, .int], some .int⟩ := by decide +kernel
theorem pd_2 : parseMethodDescriptor "([CII)[B" = some ⟨[(.array .char), .int, .int], some (.array .byte)⟩ := by decide +kernel
theorem pd_3 : parseMethodDescriptor "([BI)B" = some ⟨[(.array .byte), .int], some .byte⟩ := by decide +kernel
theorem pd_4 : parseMethodDescriptor "([C)V" = some ⟨[(.array .char)], none⟩ := by decide +kernel
theorem pd_5 : parseMethodDescriptor "()V" = some ⟨[], none⟩ := by decide +kernel
theorem pd_6 : parseMethodDescriptor "()Z" = some ⟨[], some .boolean⟩ := by decide +kernel
theorem pd_7 : parseMethodDescriptor "(II)Ljava/lang/String;" = some ⟨[.int, .int], some (.object "java/lang/String")⟩ := by decide +kernel
theorem pd_8 : parseMethodDescriptor "(Ljava/lang/String;Ljava/lang/String;)V" = some ⟨[(.object "java/lang/String"), (.object "java/lang/String")], none⟩ := by decide +kernel
theorem pn_0 : plainName "java/lang/String" = true := by first | (simp [plainName, overriddenIn]; done) | decide +kernel
theorem pn_1 : plainName "java/lang/StringUTF16" = true := by first | (simp [plainName, overriddenIn]; done) | decide +kernel
theorem pn_2 : plainName "com/example/gleaner/gleaner/harvest/ValidatorsIsEmptyPinLaw" = true := by first | (simp [plainName, overriddenIn]; done) | decide +kernel
theorem pn_3 : plainName "java/lang/Record" = true := by first | (simp [plainName, overriddenIn]; done) | decide +kernel
theorem pn_4 : plainName "com/example/gleaner/gleaner/harvest/Validators" = true := by first | (simp [plainName, overriddenIn]; done) | decide +kernel
theorem wS {a0 : Array Value} {Z : State} (hw : HW a0 Z) : ∀ a ∈ Bundle.stringAtoms, a.before a0 Z = true := by
  intro d hd
  simp only [Bundle.stringAtoms, Bundle.sN, List.mem_cons, List.not_mem_nil, or_false] at hd
  rcases hd with rfl | rfl | rfl | rfl | rfl | rfl | rfl
  · exact (w7 hw)
  · exact (w6 hw)
  · exact (w20 hw)
  · exact (w21 hw)
  · exact (w22 hw)
  · exact (w23 hw)
  · exact (w24 hw)
theorem own_EL {a0 : Array Value} {Z : State} (hw : HW a0 Z) : EW Z a0 EL0 := EW.cons (w19 hw) (by decide) EW.nil
theorem own_na {a0 : Array Value} {Z : State} {h : Heap} {a b : Addr} {ty : FieldType} {vs : List Value} (E : Exa Z h a "java/lang/String") (hw : HW a0 Z) (A : OA Z h b ty vs) : a ≠ b := by
  obtain ⟨c, A, -⟩ := A
  exact ne_arr E (w6 hw) A
theorem d3_0 : decode jdk_42_method_149_code 0 = .ok (.aload_n 0, 1) := by decide +kernel
theorem d3_1 : decode jdk_42_method_149_code 1 = .ok (.invokespecial 1, 3) := by decide +kernel
theorem d3_4 : decode jdk_42_method_149_code 4 = .ok (.iload_n 3, 1) := by decide +kernel
theorem d3_5 : decode jdk_42_method_149_code 5 = .ok (.ifCond .ne 22, 3) := by decide +kernel
theorem d3_8 : decode jdk_42_method_149_code 8 = .ok (.aload_n 0, 1) := by decide +kernel
theorem d3_9 : decode jdk_42_method_149_code 9 = .ok (.ldc 7, 2) := by decide +kernel
theorem d3_11 : decode jdk_42_method_149_code 11 = .ok (.getfield 9, 3) := by decide +kernel
theorem d3_14 : decode jdk_42_method_149_code 14 = .ok (.putfield 9, 3) := by decide +kernel
theorem d3_17 : decode jdk_42_method_149_code 17 = .ok (.aload_n 0, 1) := by decide +kernel
theorem d3_18 : decode jdk_42_method_149_code 18 = .ok (.ldc 7, 2) := by decide +kernel
theorem d3_20 : decode jdk_42_method_149_code 20 = .ok (.getfield 15, 3) := by decide +kernel
theorem d3_23 : decode jdk_42_method_149_code 23 = .ok (.putfield 15, 3) := by decide +kernel
theorem d3_26 : decode jdk_42_method_149_code 26 = .ok (.return_, 1) := by decide +kernel
theorem d3_27 : decode jdk_42_method_149_code 27 = .ok (.getstatic 38, 3) := by decide +kernel
theorem d3_30 : decode jdk_42_method_149_code 30 = .ok (.ifCond .eq 28, 3) := by decide +kernel
theorem d3_33 : decode jdk_42_method_149_code 33 = .ok (.aload_n 1, 1) := by decide +kernel
theorem d3_34 : decode jdk_42_method_149_code 34 = .ok (.iload_n 2, 1) := by decide +kernel
theorem d3_35 : decode jdk_42_method_149_code 35 = .ok (.iload_n 3, 1) := by decide +kernel
theorem d3_36 : decode jdk_42_method_149_code 36 = .ok (.invokestatic 177, 3) := by decide +kernel
theorem d3_39 : decode jdk_42_method_149_code 39 = .ok (.astore 5, 2) := by decide +kernel
theorem d3_41 : decode jdk_42_method_149_code 41 = .ok (.aload_n 0, 1) := by decide +kernel
theorem d3_42 : decode jdk_42_method_149_code 42 = .ok (.aload 5, 2) := by decide +kernel
theorem d3_44 : decode jdk_42_method_149_code 44 = .ok (.iload_n 3, 1) := by decide +kernel
theorem d3_45 : decode jdk_42_method_149_code 45 = .ok (.invokestatic 47, 3) := by decide +kernel
theorem d3_48 : decode jdk_42_method_149_code 48 = .ok (.putfield 15, 3) := by decide +kernel
theorem d3_51 : decode jdk_42_method_149_code 51 = .ok (.aload_n 0, 1) := by decide +kernel
theorem d3_52 : decode jdk_42_method_149_code 52 = .ok (.aload 5, 2) := by decide +kernel
theorem d3_54 : decode jdk_42_method_149_code 54 = .ok (.putfield 9, 3) := by decide +kernel
theorem d3_57 : decode jdk_42_method_149_code 57 = .ok (.return_, 1) := by decide +kernel
theorem d3_58 : decode jdk_42_method_149_code 58 = .ok (.aload_n 0, 1) := by decide +kernel
theorem d3_59 : decode jdk_42_method_149_code 59 = .ok (.iconst 1, 1) := by decide +kernel
theorem d3_60 : decode jdk_42_method_149_code 60 = .ok (.putfield 15, 3) := by decide +kernel
theorem d3_63 : decode jdk_42_method_149_code 63 = .ok (.aload_n 0, 1) := by decide +kernel
theorem d3_64 : decode jdk_42_method_149_code 64 = .ok (.aload_n 1, 1) := by decide +kernel
theorem d3_65 : decode jdk_42_method_149_code 65 = .ok (.iload_n 2, 1) := by decide +kernel
theorem d3_66 : decode jdk_42_method_149_code 66 = .ok (.iload_n 3, 1) := by decide +kernel
theorem d3_67 : decode jdk_42_method_149_code 67 = .ok (.invokestatic 180, 3) := by decide +kernel
theorem d3_70 : decode jdk_42_method_149_code 70 = .ok (.putfield 9, 3) := by decide +kernel
theorem d3_73 : decode jdk_42_method_149_code 73 = .ok (.return_, 1) := by decide +kernel
set_option maxRecDepth 65536 in
set_option maxHeartbeats 40000000 in
theorem bI5_0 {l : Launch} {Z : State} {a0 : Array Value} (hw : HW a0 Z) (x0 : Addr) (x1 : Addr) {n0 : Nat} {h : Heap} (Z0 : n0 ≤ h.size) (g0 : n0 ≤ x0) (E0 : Exa Z h x0 "java/lang/String") (F0 : Fld Z h x0 "java/lang/String" "value" "[B" .null) (F1 : Fld Z h x0 "java/lang/String" "coder" "B" (.int (0 : Int32))) (A1 : OA Z h x1 .char []) : OM [x0] l Z (⟨"java/lang/String", "<init>", "([CIILjava/lang/Void;)V"⟩ : MethodName) jdk_42_method_149_code 6 none ⟨1, 4, 8, 12⟩ n0 h #[(.ref x0), (.ref x1), (.int (0 : Int32)), (.int (0 : Int32)), .null] (fun v h' => v = none ∧ Keep h h' [x0] ∧ ∃ b : Addr, Fld Z h' x0 "java/lang/String" "value" "[B" (.ref b) ∧ Fld Z h' x0 "java/lang/String" "coder" "B" (.int (0 : Int32)) ∧ OA Z h' b .byte []) 4 8 := by
  refine OM.of_body (own_EL hw) (ls := #[.val (.ref x0), .val (.ref x1), .val (.int (0 : Int32)), .val (.int (0 : Int32)), .val .null, .unset]) (plainFor_of_name pn_0) (fun m => by first | (simp [entryFrame, mkF, argsToLocals, Value.category]; done) | rfl) ?_
  intro p e s m below meth c C
  refine OG.ow (OG.aloadN C d3_0 rfl rfl (pc' := 1) rfl) ?_
  refine OG.ow (OG.initO C (w16 hw) (w17 hw) (w18 hw) d3_1 rfl (by decide) (W := 0) rfl (by decide) (pc' := 4) rfl) ?_
  refine OG.ow (OG.iloadN C d3_4 rfl (pc' := 5) rfl) ?_
  refine OG.ow (OG.ifNo C d3_5 ((if0 _ _).trans (teq (by decide : (0 : Int32) = (0 : Int32))).2) (pc' := 8) rfl) ?_
  refine OG.ow (OG.aloadN C d3_8 rfl rfl (pc' := 9) rfl) ?_
  refine OW.ldcH C rfl rfl (w19 hw) (wS hw) (by decide) (by decide) d3_9 (pc' := 11) rfl ?_
  intro a1 b2 h3 Eh3 Xa1 Ca1 Va1 Ab2 Na1
  refine OG.ow (OG.getF C (host := "") (Or.inl (w25 hw)) Via.refl Va1 d3_11 (pc' := 14) rfl) ?_
  have G4 := (Fld.ext Eh3 F0)
  have G5 := (Exa.ext Eh3 E0)
  refine OW.putF C (host := "") (Or.inl (w25 hw)) Via.refl G4 G5 (Or.inr ⟨(w21 hw), rfl, rfl⟩) (w6 hw) (ty := (.array .byte)) (by decide) rfl rfl g0 (fun _ _ S => S _ (List.mem_of_getElem? (i := 0) rfl)) d3_14 (pc' := 17) rfl ?_
  intro h6 Wh6
  have G7 := Fld.same Wh6 G4
  refine OG.ow (OG.aloadN C d3_17 rfl rfl (pc' := 18) rfl) ?_
  refine OW.ldcH C rfl rfl (w19 hw) (wS hw) (by decide) (by decide) d3_18 (pc' := 20) rfl ?_
  intro a8 b9 h10 Eh10 Xa8 Ca8 Va8 Ab9 Na8
  refine OG.ow (OG.getF C (host := "") (Or.inl (w26 hw)) Via.refl Ca8 d3_20 (pc' := 23) rfl) ?_
  have G11 := (Fld.ext Eh10 (Fld.other Wh6 (Fld.ext Eh3 F1) (Or.inr (slot_ne (Or.inr (w22 hw)) (Or.inr (w21 hw)) (by decide) (t := .byte) (t' := (.array .byte)) (by decide) (by decide)))))
  have G12 := (Exa.ext Eh10 (Exa.wr Wh6 G5))
  refine OW.putF C (host := "") (Or.inl (w26 hw)) Via.refl G11 G12 (Or.inr ⟨(w22 hw), rfl, rfl⟩) (w6 hw) (ty := .byte) (by decide) rfl rfl g0 (fun _ _ S => S _ (List.mem_of_getElem? (i := 0) rfl)) d3_23 (pc' := 26) rfl ?_
  intro h13 Wh13
  have G14 := Fld.same Wh13 G11
  refine OW.retV C d3_26 (by decide) (by decide) ?_
  have G15 := (Fld.other Wh13 (Fld.ext Eh10 G7) (Or.inr (slot_ne (Or.inr (w21 hw)) (Or.inr (w22 hw)) (by decide) (t := (.array .byte)) (t' := .byte) (by decide) (by decide))))
  have G16 := (OA.other ((OA.other Ab2 Wh6 (Ne.symm (Na1 _ (List.mem_of_getElem? (i := 0) rfl)).2)).ext Eh10) Wh13 (Ne.symm (Na1 _ (List.mem_of_getElem? (i := 0) rfl)).2))
  exact ⟨rfl, (((((Keep.refl h [x0]).ext Eh3).wr Wh6 (Or.inl (List.mem_of_getElem? (i := 0) rfl))).ext Eh10).wr Wh13 (Or.inl (List.mem_of_getElem? (i := 0) rfl))), _, G15, G14, G16⟩
theorem d2_0 : decode jdk_42_method_3_code 0 = .ok (.aload_n 0, 1) := by decide +kernel
theorem d2_1 : decode jdk_42_method_3_code 1 = .ok (.aload_n 1, 1) := by decide +kernel
theorem d2_2 : decode jdk_42_method_3_code 2 = .ok (.iconst 0, 1) := by decide +kernel
theorem d2_3 : decode jdk_42_method_3_code 3 = .ok (.aload_n 1, 1) := by decide +kernel
theorem d2_4 : decode jdk_42_method_3_code 4 = .ok (.arraylength, 1) := by decide +kernel
theorem d2_5 : decode jdk_42_method_3_code 5 = .ok (.aconst_null, 1) := by decide +kernel
theorem d2_6 : decode jdk_42_method_3_code 6 = .ok (.invokespecial 27, 3) := by decide +kernel
theorem d2_9 : decode jdk_42_method_3_code 9 = .ok (.return_, 1) := by decide +kernel
set_option maxRecDepth 65536 in
set_option maxHeartbeats 40000000 in
theorem bI1_0 {l : Launch} {Z : State} {a0 : Array Value} (hw : HW a0 Z) (x0 : Addr) (x1 : Addr) {n0 : Nat} {h : Heap} (Z0 : n0 ≤ h.size) (g0 : n0 ≤ x0) (E0 : Exa Z h x0 "java/lang/String") (F0 : Fld Z h x0 "java/lang/String" "value" "[B" .null) (F1 : Fld Z h x0 "java/lang/String" "coder" "B" (.int (0 : Int32))) (A1 : OA Z h x1 .char []) : OM [x0] l Z (⟨"java/lang/String", "<init>", "([C)V"⟩ : MethodName) jdk_42_method_3_code 2 none ⟨2, 4, 8, 29⟩ n0 h #[(.ref x0), (.ref x1)] (fun v h' => v = none ∧ Keep h h' [x0] ∧ ∃ b : Addr, Fld Z h' x0 "java/lang/String" "value" "[B" (.ref b) ∧ Fld Z h' x0 "java/lang/String" "coder" "B" (.int (0 : Int32)) ∧ OA Z h' b .byte []) 4 8 := by
  refine OM.of_body (own_EL hw) (ls := #[.val (.ref x0), .val (.ref x1)]) (plainFor_of_name pn_0) (fun m => by first | (simp [entryFrame, mkF, argsToLocals, Value.category]; done) | rfl) ?_
  intro p e s m below meth c C
  refine OG.ow (OG.aloadN C d2_0 rfl rfl (pc' := 1) rfl) ?_
  refine OG.ow (OG.aloadN C d2_1 rfl rfl (pc' := 2) rfl) ?_
  refine OG.ow (OG.iconst C d2_2 (z := (0 : Int32)) rfl (pc' := 3) rfl) ?_
  refine OG.ow (OG.aloadN C d2_3 rfl rfl (pc' := 4) rfl) ?_
  refine OG.ow (OG.arraylength C A1 (z := (0 : Int32)) (by first | rfl | decide) d2_4 (pc' := 5) rfl) ?_
  refine OG.ow (OG.aconst_null C d2_5 (pc' := 6) rfl) ?_
  refine OW.init C (w12 hw) (w13 hw) (w7 hw) (w15 hw) rfl (by decide) (bI5_0 hw x0 x1 Z0 g0 E0 F0 F1 A1) (allC (i := 0) rfl allN) d2_6 pd_0 rfl (argsL := [(.ref x1), (.int (0 : Int32)), (.int (0 : Int32)), .null]) (rest := []) rfl rfl (W := 0) rfl (by decide) (by decide) (by decide) (by decide) (pc' := 9) rfl ?_
  intro vh1 h1 qh1
  obtain ⟨rfl, Kh1, b2, Vh1, Ch1, Ab2⟩ := qh1
  refine OW.retV C d2_9 (by decide) (by decide) ?_
  exact ⟨rfl, ((Keep.refl h [x0]).trans Kh1 (allS (Or.inl (List.mem_of_getElem? (i := 0) rfl)) all0)), _, Vh1, Ch1, Ab2⟩
theorem d6_0 : decode jdk_52_method_21_code 0 = .ok (.iconst 0, 1) := by decide +kernel
theorem d6_1 : decode jdk_52_method_21_code 1 = .ok (.istore 5, 2) := by decide +kernel
theorem d6_3 : decode jdk_52_method_21_code 3 = .ok (.iload 5, 2) := by decide +kernel
theorem d6_5 : decode jdk_52_method_21_code 5 = .ok (.iload 4, 2) := by decide +kernel
theorem d6_7 : decode jdk_52_method_21_code 7 = .ok (.if_icmp .ge 37, 3) := by decide +kernel
theorem d6_10 : decode jdk_52_method_21_code 10 = .ok (.aload_n 0, 1) := by decide +kernel
theorem d6_11 : decode jdk_52_method_21_code 11 = .ok (.iload_n 1, 1) := by decide +kernel
theorem d6_12 : decode jdk_52_method_21_code 12 = .ok (.caload, 1) := by decide +kernel
theorem d6_13 : decode jdk_52_method_21_code 13 = .ok (.istore 6, 2) := by decide +kernel
theorem d6_15 : decode jdk_52_method_21_code 15 = .ok (.iload 6, 2) := by decide +kernel
theorem d6_17 : decode jdk_52_method_21_code 17 = .ok (.sipush 255, 3) := by decide +kernel
theorem d6_20 : decode jdk_52_method_21_code 20 = .ok (.if_icmp .le 6, 3) := by decide +kernel
theorem d6_23 : decode jdk_52_method_21_code 23 = .ok (.iload 5, 2) := by decide +kernel
theorem d6_25 : decode jdk_52_method_21_code 25 = .ok (.ireturn, 1) := by decide +kernel
theorem d6_26 : decode jdk_52_method_21_code 26 = .ok (.aload_n 2, 1) := by decide +kernel
theorem d6_27 : decode jdk_52_method_21_code 27 = .ok (.iload_n 3, 1) := by decide +kernel
theorem d6_28 : decode jdk_52_method_21_code 28 = .ok (.iload 6, 2) := by decide +kernel
theorem d6_30 : decode jdk_52_method_21_code 30 = .ok (.i2b, 1) := by decide +kernel
theorem d6_31 : decode jdk_52_method_21_code 31 = .ok (.bastore, 1) := by decide +kernel
theorem d6_32 : decode jdk_52_method_21_code 32 = .ok (.iinc 1 1, 3) := by decide +kernel
theorem d6_35 : decode jdk_52_method_21_code 35 = .ok (.iinc 3 1, 3) := by decide +kernel
theorem d6_38 : decode jdk_52_method_21_code 38 = .ok (.iinc 5 1, 3) := by decide +kernel
theorem d6_41 : decode jdk_52_method_21_code 41 = .ok (.goto (-38), 3) := by decide +kernel
theorem d6_44 : decode jdk_52_method_21_code 44 = .ok (.iload 4, 2) := by decide +kernel
theorem d6_46 : decode jdk_52_method_21_code 46 = .ok (.ireturn, 1) := by decide +kernel
set_option maxRecDepth 65536 in
set_option maxHeartbeats 40000000 in
theorem bC5_1 {l : Launch} {Z : State} {a0 : Array Value} (hw : HW a0 Z) (x0 : Addr) (x2 : Addr) {c0 : Int32}  {n0 : Nat} {h : Heap} (Z0 : n0 ≤ h.size) (g2 : n0 ≤ x2) (A0 : OA Z h x0 .char [(.int c0)]) (A2 : OA Z h x2 .byte [(.int (0 : Int32))]) (k0 : ¬ (255 : Int32) < c0) (hne : x0 ≠ x2) : OM [x2] l Z (⟨"java/lang/StringUTF16", "compress", "([CI[BII)I"⟩ : MethodName) jdk_52_method_21_code 7 (some .int) ⟨0, 0, 0, 0⟩ n0 h #[(.ref x0), (.int (0 : Int32)), (.ref x2), (.int (0 : Int32)), (.int (1 : Int32))] (fun v h' => v = some (.int (1 : Int32)) ∧ Keep h h' [x2] ∧ OA Z h' x2 .byte [(.int c0.toInt8.toInt32)]) 0 0 := by
  refine OM.of_body (own_EL hw) (ls := #[.val (.ref x0), .val (.int (0 : Int32)), .val (.ref x2), .val (.int (0 : Int32)), .val (.int (1 : Int32)), .unset, .unset]) (plainFor_of_name pn_1) (fun m => by first | (simp [entryFrame, mkF, argsToLocals, Value.category]; done) | rfl) ?_
  intro p e s m below meth c C
  refine OG.ow (OG.iconst C d6_0 (z := (0 : Int32)) rfl (pc' := 1) rfl) ?_
  refine OG.ow (OG.istore C d6_1 (ls' := #[.val (.ref x0), .val (.int (0 : Int32)), .val (.ref x2), .val (.int (0 : Int32)), .val (.int (1 : Int32)), .val (.int (0 : Int32)), .unset]) rfl (pc' := 3) rfl) ?_
  refine OG.ow (OG.iload C d6_3 rfl (pc' := 5) rfl) ?_
  refine OG.ow (OG.iload C d6_5 rfl (pc' := 7) rfl) ?_
  refine OG.ow (OG.icmpNo C d6_7 (tlt (by decide : (0 : Int32) < (1 : Int32))).2.1 (pc' := 10) rfl) ?_
  refine OG.ow (OG.aloadN C d6_10 rfl rfl (pc' := 11) rfl) ?_
  refine OG.ow (OG.iloadN C d6_11 rfl (pc' := 12) rfl) ?_
  refine OG.ow (OG.caload C A0 (own_ib (n := 1) rfl (by decide)) rfl d6_12 (pc' := 13) rfl) ?_
  refine OG.ow (OG.istore C d6_13 (ls' := #[.val (.ref x0), .val (.int (0 : Int32)), .val (.ref x2), .val (.int (0 : Int32)), .val (.int (1 : Int32)), .val (.int (0 : Int32)), .val (.int c0)]) rfl (pc' := 15) rfl) ?_
  refine OG.ow (OG.iload C d6_15 rfl (pc' := 17) rfl) ?_
  refine OG.ow (OG.sipush C d6_17 (z := (255 : Int32)) (by decide) (pc' := 20) rfl) ?_
  refine OG.ow (OG.icmpYes C d6_20 (flt k0).2.2.2 (by decide) (pc' := 26) (by decide)) ?_
  refine OG.ow (OG.aloadN C d6_26 rfl rfl (pc' := 27) rfl) ?_
  refine OG.ow (OG.iloadN C d6_27 rfl (pc' := 28) rfl) ?_
  refine OG.ow (OG.iload C d6_28 rfl (pc' := 30) rfl) ?_
  refine OG.ow (OG.i2b C d6_30 (pc' := 31) rfl) ?_
  refine OW.bastore C A2 (own_ib (n := 1) rfl (by decide)) g2 (fun _ _ S => S _ (List.mem_of_getElem? (i := 0) rfl)) d6_31 (pc' := 32) rfl ?_
  intro h1 Wh1
  rw [(own_nb _)] at Wh1
  have G2 : OA Z h1 x2 .byte [(.int c0.toInt8.toInt32)] := OA.same A2 Wh1
  refine OG.ow (OG.iinc C d6_32 (z := (1 : Int32)) rfl rfl (ls' := #[.val (.ref x0), .val (.int (1 : Int32)), .val (.ref x2), .val (.int (0 : Int32)), .val (.int (1 : Int32)), .val (.int (0 : Int32)), .val (.int c0)]) (by rw [show (0 : Int32) + (1 : Int32) = (1 : Int32) by decide]; rfl) (pc' := 35) rfl) ?_
  refine OG.ow (OG.iinc C d6_35 (z := (1 : Int32)) rfl rfl (ls' := #[.val (.ref x0), .val (.int (1 : Int32)), .val (.ref x2), .val (.int (1 : Int32)), .val (.int (1 : Int32)), .val (.int (0 : Int32)), .val (.int c0)]) (by rw [show (0 : Int32) + (1 : Int32) = (1 : Int32) by decide]; rfl) (pc' := 38) rfl) ?_
  refine OG.ow (OG.iinc C d6_38 (z := (1 : Int32)) rfl rfl (ls' := #[.val (.ref x0), .val (.int (1 : Int32)), .val (.ref x2), .val (.int (1 : Int32)), .val (.int (1 : Int32)), .val (.int (1 : Int32)), .val (.int c0)]) (by rw [show (0 : Int32) + (1 : Int32) = (1 : Int32) by decide]; rfl) (pc' := 41) rfl) ?_
  refine OG.ow (OG.goto C d6_41 (by decide) (pc' := 3) (by decide)) ?_
  refine OG.ow (OG.iload C d6_3 rfl (pc' := 5) rfl) ?_
  refine OG.ow (OG.iload C d6_5 rfl (pc' := 7) rfl) ?_
  refine OG.ow (OG.icmpYes C d6_7 (flt (by decide : ¬ ((1 : Int32) < (1 : Int32)))).2.1 (by decide) (pc' := 44) (by decide)) ?_
  refine OG.ow (OG.iload C d6_44 rfl (pc' := 46) rfl) ?_
  refine OW.retI C d6_46 (by decide) (by decide) ?_
  exact ⟨rfl, ((Keep.refl h [x2]).wr Wh1 (Or.inl (List.mem_of_getElem? (i := 0) rfl))), G2⟩
theorem d5_0 : decode jdk_52_method_16_code 0 = .ok (.iload_n 2, 1) := by decide +kernel
theorem d5_1 : decode jdk_52_method_16_code 1 = .ok (.newarray .byte, 2) := by decide +kernel
theorem d5_3 : decode jdk_52_method_16_code 3 = .ok (.astore_n 3, 1) := by decide +kernel
theorem d5_4 : decode jdk_52_method_16_code 4 = .ok (.aload_n 0, 1) := by decide +kernel
theorem d5_5 : decode jdk_52_method_16_code 5 = .ok (.iload_n 1, 1) := by decide +kernel
theorem d5_6 : decode jdk_52_method_16_code 6 = .ok (.aload_n 3, 1) := by decide +kernel
theorem d5_7 : decode jdk_52_method_16_code 7 = .ok (.iconst 0, 1) := by decide +kernel
theorem d5_8 : decode jdk_52_method_16_code 8 = .ok (.iload_n 2, 1) := by decide +kernel
theorem d5_9 : decode jdk_52_method_16_code 9 = .ok (.invokestatic 115, 3) := by decide +kernel
theorem d5_12 : decode jdk_52_method_16_code 12 = .ok (.istore 4, 2) := by decide +kernel
theorem d5_14 : decode jdk_52_method_16_code 14 = .ok (.iload 4, 2) := by decide +kernel
theorem d5_16 : decode jdk_52_method_16_code 16 = .ok (.iload_n 2, 1) := by decide +kernel
theorem d5_17 : decode jdk_52_method_16_code 17 = .ok (.if_icmp .eq 40, 3) := by decide +kernel
theorem d5_20 : decode jdk_52_method_16_code 20 = .ok (.aload_n 0, 1) := by decide +kernel
theorem d5_21 : decode jdk_52_method_16_code 21 = .ok (.iload_n 1, 1) := by decide +kernel
theorem d5_22 : decode jdk_52_method_16_code 22 = .ok (.iload_n 2, 1) := by decide +kernel
theorem d5_23 : decode jdk_52_method_16_code 23 = .ok (.invokestatic 119, 3) := by decide +kernel
theorem d5_26 : decode jdk_52_method_16_code 26 = .ok (.astore 5, 2) := by decide +kernel
theorem d5_28 : decode jdk_52_method_16_code 28 = .ok (.aload 5, 2) := by decide +kernel
theorem d5_30 : decode jdk_52_method_16_code 30 = .ok (.iload 4, 2) := by decide +kernel
theorem d5_32 : decode jdk_52_method_16_code 32 = .ok (.invokestatic 71, 3) := by decide +kernel
theorem d5_35 : decode jdk_52_method_16_code 35 = .ok (.sipush 255, 3) := by decide +kernel
theorem d5_38 : decode jdk_52_method_16_code 38 = .ok (.if_icmp .gt 16, 3) := by decide +kernel
theorem d5_41 : decode jdk_52_method_16_code 41 = .ok (.aload 5, 2) := by decide +kernel
theorem d5_43 : decode jdk_52_method_16_code 43 = .ok (.iconst 0, 1) := by decide +kernel
theorem d5_44 : decode jdk_52_method_16_code 44 = .ok (.aload_n 3, 1) := by decide +kernel
theorem d5_45 : decode jdk_52_method_16_code 45 = .ok (.iconst 0, 1) := by decide +kernel
theorem d5_46 : decode jdk_52_method_16_code 46 = .ok (.iload_n 2, 1) := by decide +kernel
theorem d5_47 : decode jdk_52_method_16_code 47 = .ok (.invokestatic 123, 3) := by decide +kernel
theorem d5_50 : decode jdk_52_method_16_code 50 = .ok (.iload_n 2, 1) := by decide +kernel
theorem d5_51 : decode jdk_52_method_16_code 51 = .ok (.if_icmp .eq 6, 3) := by decide +kernel
theorem d5_54 : decode jdk_52_method_16_code 54 = .ok (.aload 5, 2) := by decide +kernel
theorem d5_56 : decode jdk_52_method_16_code 56 = .ok (.areturn, 1) := by decide +kernel
theorem d5_57 : decode jdk_52_method_16_code 57 = .ok (.aload_n 3, 1) := by decide +kernel
theorem d5_58 : decode jdk_52_method_16_code 58 = .ok (.areturn, 1) := by decide +kernel
set_option maxRecDepth 65536 in
set_option maxHeartbeats 40000000 in
theorem bC3_1 {l : Launch} {Z : State} {a0 : Array Value} (hw : HW a0 Z) (x0 : Addr) {c0 : Int32}  {n0 : Nat} {h : Heap} (Z0 : n0 ≤ h.size) (A0 : OA Z h x0 .char [(.int c0)]) (k0 : ¬ (255 : Int32) < c0) : OM [] l Z (⟨"java/lang/StringUTF16", "compress", "([CII)[B"⟩ : MethodName) jdk_52_method_16_code 6 (some (.array .byte)) ⟨1, 1, 1, 18⟩ n0 h #[(.ref x0), (.int (0 : Int32)), (.int (1 : Int32))] (fun v h' => ∃ b : Addr, v = some (.ref b) ∧ h.size ≤ b ∧ Keep h h' [] ∧ OA Z h' b .byte [(.int c0.toInt8.toInt32)]) 1 1 := by
  refine OM.of_body (own_EL hw) (ls := #[.val (.ref x0), .val (.int (0 : Int32)), .val (.int (1 : Int32)), .unset, .unset, .unset]) (plainFor_of_name pn_1) (fun m => by first | (simp [entryFrame, mkF, argsToLocals, Value.category]; done) | rfl) ?_
  intro p e s m below meth c C
  refine OG.ow (OG.iloadN C d5_0 rfl (pc' := 1) rfl) ?_
  refine OW.newP C (ty := .byte) rfl (w20 hw) (by decide) (cap := 1) (by decide) (by decide) d5_1 (by decide) (by decide) (pc' := 3) rfl ?_
  intro a1 h2 ga1 Eh2 Aa1
  refine OG.ow (OG.astoreN C d5_3 rfl (ls' := #[.val (.ref x0), .val (.int (0 : Int32)), .val (.int (1 : Int32)), .val (.ref a1), .unset, .unset]) rfl (pc' := 4) rfl) ?_
  refine OG.ow (OG.aloadN C d5_4 rfl rfl (pc' := 5) rfl) ?_
  refine OG.ow (OG.iloadN C d5_5 rfl (pc' := 6) rfl) ?_
  refine OG.ow (OG.aloadN C d5_6 rfl rfl (pc' := 7) rfl) ?_
  refine OG.ow (OG.iconst C d5_7 (z := (0 : Int32)) rfl (pc' := 8) rfl) ?_
  refine OG.ow (OG.iloadN C d5_8 rfl (pc' := 9) rfl) ?_
  have G3 := (A0.ext Eh2)
  refine OW.callS C (w32 hw) (w33 hw) (w30 hw) (w34 hw) (by decide) (bC5_1 hw x0 a1 (Nat.le_trans Z0 Eh2.1) (Nat.le_trans Z0 (Nat.le_of_eq ga1)) G3 (show OA Z h2 a1 .byte [(.int (0 : Int32))] from Aa1) k0 (Nat.ne_of_lt (Nat.lt_of_lt_of_le (Nat.lt_of_lt_of_le (A0).lt (Nat.le_refl _)) (Nat.le_of_eq ga1)))) (allC (i := 0) rfl allN) d5_9 pd_1 rfl (argsL := [(.ref x0), (.int (0 : Int32)), (.ref a1), (.int (0 : Int32)), (.int (1 : Int32))]) (rest := []) rfl rfl (W := 0) rfl (by decide) (by decide) (by decide) (by decide) (pc' := 12) rfl ?_
  intro vh4 h4 qh4
  obtain ⟨rfl, Kh4, Ah4⟩ := qh4
  refine OG.ow (OG.istore C d5_12 (ls' := #[.val (.ref x0), .val (.int (0 : Int32)), .val (.int (1 : Int32)), .val (.ref a1), .val (.int (1 : Int32)), .unset]) rfl (pc' := 14) rfl) ?_
  refine OG.ow (OG.iload C d5_14 rfl (pc' := 16) rfl) ?_
  refine OG.ow (OG.iloadN C d5_16 rfl (pc' := 17) rfl) ?_
  refine OG.ow (OG.icmpYes C d5_17 (teq (by decide : (1 : Int32) = (1 : Int32))).1 (by decide) (pc' := 57) (by decide)) ?_
  refine OG.ow (OG.aloadN C d5_57 rfl rfl (pc' := 58) rfl) ?_
  refine OW.retA C rfl rfl d5_58 (by decide) (by decide) ?_
  exact ⟨_, rfl, (Nat.le_of_eq ga1), (((Keep.refl h []).ext Eh2).trans Kh4 (allS (Or.inr (Nat.le_trans (Nat.le_refl _) (Nat.le_of_eq ga1))) all0)), Ah4⟩
theorem d7_0 : decode jdk_52_method_15_code 0 = .ok (.iload_n 1, 1) := by decide +kernel
theorem d7_1 : decode jdk_52_method_15_code 1 = .ok (.aload_n 0, 1) := by decide +kernel
theorem d7_2 : decode jdk_52_method_15_code 2 = .ok (.arraylength, 1) := by decide +kernel
theorem d7_3 : decode jdk_52_method_15_code 3 = .ok (.isub, 1) := by decide +kernel
theorem d7_4 : decode jdk_52_method_15_code 4 = .ok (.bipush 31, 2) := by decide +kernel
theorem d7_6 : decode jdk_52_method_15_code 6 = .ok (.iushr, 1) := by decide +kernel
theorem d7_7 : decode jdk_52_method_15_code 7 = .ok (.i2b, 1) := by decide +kernel
theorem d7_8 : decode jdk_52_method_15_code 8 = .ok (.ireturn, 1) := by decide +kernel
set_option maxRecDepth 65536 in
set_option maxHeartbeats 40000000 in
theorem bCo_1 {l : Launch} {Z : State} {a0 : Array Value} (hw : HW a0 Z) (x0 : Addr) {c0 : Int32}  {n0 : Nat} {h : Heap} (Z0 : n0 ≤ h.size) (A0 : OA Z h x0 .byte [(.int c0.toInt8.toInt32)]) : OM [] l Z (⟨"java/lang/StringUTF16", "coderFromArrayLen", "([BI)B"⟩ : MethodName) jdk_52_method_15_code 2 (some .byte) ⟨0, 0, 0, 0⟩ n0 h #[(.ref x0), (.int (1 : Int32))] (fun v h' => v = some (.int (0 : Int32)) ∧ h' = h) 0 0 := by
  refine OM.of_body (own_EL hw) (ls := #[.val (.ref x0), .val (.int (1 : Int32))]) (plainFor_of_name pn_1) (fun m => by first | (simp [entryFrame, mkF, argsToLocals, Value.category]; done) | rfl) ?_
  intro p e s m below meth c C
  refine OG.ow (OG.iloadN C d7_0 rfl (pc' := 1) rfl) ?_
  refine OG.ow (OG.aloadN C d7_1 rfl rfl (pc' := 2) rfl) ?_
  refine OG.ow (OG.arraylength C A0 (z := (1 : Int32)) (by first | rfl | decide) d7_2 (pc' := 3) rfl) ?_
  refine OG.ow (OG.cast (OG.isub C d7_3 (pc' := 4) rfl) (own_fr (z := (0 : Int32)) (by decide))) ?_
  refine OG.ow (OG.bipush C d7_4 (z := (31 : Int32)) (by decide) (pc' := 6) rfl) ?_
  refine OG.ow (OG.cast (OG.iushr C d7_6 (pc' := 7) rfl) (own_fr (z := (0 : Int32)) (by decide))) ?_
  refine OG.ow (OG.cast (OG.i2b C d7_7 (pc' := 8) rfl) (own_fr (z := (0 : Int32)) (by decide))) ?_
  refine OW.retN (t := .byte) C (by simp) d7_8 (by decide) (by decide) ?_
  exact ⟨rfl, rfl⟩
set_option maxRecDepth 65536 in
set_option maxHeartbeats 40000000 in
theorem bI5_1 {l : Launch} {Z : State} {a0 : Array Value} (hw : HW a0 Z) (x0 : Addr) (x1 : Addr) {c0 : Int32} {cs : Int32} {n0 : Nat} {h : Heap} (Z0 : n0 ≤ h.size) (g0 : n0 ≤ x0) (E0 : Exa Z h x0 "java/lang/String") (F0 : Fld Z h x0 "java/lang/String" "value" "[B" .null) (F1 : Fld Z h x0 "java/lang/String" "coder" "B" (.int (0 : Int32))) (A1 : OA Z h x1 .char [(.int c0)]) (S0 : Sta Z h "java/lang/String" "COMPACT_STRINGS" "Z" (.int cs)) (hcs : ¬ cs = (0 : Int32)) (k0 : ¬ (255 : Int32) < c0) : OM [x0] l Z (⟨"java/lang/String", "<init>", "([CIILjava/lang/Void;)V"⟩ : MethodName) jdk_42_method_149_code 6 none ⟨2, 1, 1, 35⟩ n0 h #[(.ref x0), (.ref x1), (.int (0 : Int32)), (.int (1 : Int32)), .null] (fun v h' => v = none ∧ Keep h h' [x0] ∧ ∃ b : Addr, h.size ≤ b ∧ Fld Z h' x0 "java/lang/String" "value" "[B" (.ref b) ∧ Fld Z h' x0 "java/lang/String" "coder" "B" (.int (0 : Int32)) ∧ OA Z h' b .byte [(.int c0.toInt8.toInt32)]) 1 1 := by
  refine OM.of_body (own_EL hw) (ls := #[.val (.ref x0), .val (.ref x1), .val (.int (0 : Int32)), .val (.int (1 : Int32)), .val .null, .unset]) (plainFor_of_name pn_0) (fun m => by first | (simp [entryFrame, mkF, argsToLocals, Value.category]; done) | rfl) ?_
  intro p e s m below meth c C
  refine OG.ow (OG.aloadN C d3_0 rfl rfl (pc' := 1) rfl) ?_
  refine OG.ow (OG.initO C (w16 hw) (w17 hw) (w18 hw) d3_1 rfl (by decide) (W := 0) rfl (by decide) (pc' := 4) rfl) ?_
  refine OG.ow (OG.iloadN C d3_4 rfl (pc' := 5) rfl) ?_
  refine OG.ow (OG.ifYes C d3_5 ((if0 _ _).trans (feq (by decide : ¬ ((1 : Int32) = (0 : Int32)))).2) (by decide) (pc' := 27) (by decide)) ?_
  refine OG.ow (OG.getS C (host := "") (Or.inl (w27 hw)) Via.refl S0 d3_27 (pc' := 30) rfl) ?_
  refine OG.ow (OG.ifNo C d3_30 ((if0 _ _).trans (feq hcs).1) (pc' := 33) rfl) ?_
  refine OG.ow (OG.aloadN C d3_33 rfl rfl (pc' := 34) rfl) ?_
  refine OG.ow (OG.iloadN C d3_34 rfl (pc' := 35) rfl) ?_
  refine OG.ow (OG.iloadN C d3_35 rfl (pc' := 36) rfl) ?_
  refine OW.callS C (w28 hw) (w29 hw) (w30 hw) (w31 hw) (by decide) (bC3_1 hw x1 Z0 A1 k0) allN d3_36 pd_2 rfl (argsL := [(.ref x1), (.int (0 : Int32)), (.int (1 : Int32))]) (rest := []) rfl rfl (W := 0) rfl (by decide) (by decide) (by decide) (by decide) (pc' := 39) rfl ?_
  intro vh1 h1 qh1
  obtain ⟨a2, rfl, ga2, Kh1, Aa2⟩ := qh1
  refine OG.ow (OG.astore C d3_39 rfl (ls' := #[.val (.ref x0), .val (.ref x1), .val (.int (0 : Int32)), .val (.int (1 : Int32)), .val .null, .val (.ref a2)]) rfl (pc' := 41) rfl) ?_
  refine OG.ow (OG.aloadN C d3_41 rfl rfl (pc' := 42) rfl) ?_
  refine OG.ow (OG.aload C d3_42 rfl rfl (pc' := 44) rfl) ?_
  refine OG.ow (OG.iloadN C d3_44 rfl (pc' := 45) rfl) ?_
  refine OG.ow (OG.callS C (w35 hw) (w36 hw) (w30 hw) (w37 hw) (by decide) (bCo_1 hw a2 (Nat.le_trans Z0 Kh1.1) Aa2) allN d3_45 pd_3 rfl (argsL := [(.ref a2), (.int (1 : Int32))]) (rest := [(.ref x0)]) rfl rfl (W := 1) rfl (by decide) (by decide) (pc' := 48) rfl) ?_
  have G3 := (F1.keep Kh1 nin0)
  have G4 := (E0.keep Kh1)
  refine OW.putF C (host := "") (Or.inl (w26 hw)) Via.refl G3 G4 (Or.inr ⟨(w22 hw), rfl, rfl⟩) (w6 hw) (ty := .byte) (by decide) rfl rfl g0 (fun _ _ S => S _ (List.mem_of_getElem? (i := 0) rfl)) d3_48 (pc' := 51) rfl ?_
  intro h5 Wh5
  have G6 := Fld.same Wh5 G3
  refine OG.ow (OG.aloadN C d3_51 rfl rfl (pc' := 52) rfl) ?_
  refine OG.ow (OG.aload C d3_52 rfl rfl (pc' := 54) rfl) ?_
  have G7 := (Fld.other Wh5 (F0.keep Kh1 nin0) (Or.inr (slot_ne (Or.inr (w21 hw)) (Or.inr (w22 hw)) (by decide) (t := (.array .byte)) (t' := .byte) (by decide) (by decide))))
  have G8 := (Exa.wr Wh5 G4)
  refine OW.putF C (host := "") (Or.inl (w25 hw)) Via.refl G7 G8 (Or.inr ⟨(w21 hw), rfl, rfl⟩) (w6 hw) (ty := (.array .byte)) (by decide) rfl rfl g0 (fun _ _ S => S _ (List.mem_of_getElem? (i := 0) rfl)) d3_54 (pc' := 57) rfl ?_
  intro h9 Wh9
  have G10 := Fld.same Wh9 G7
  refine OW.retV C d3_57 (by decide) (by decide) ?_
  have G11 := (Fld.other Wh9 G6 (Or.inr (slot_ne (Or.inr (w22 hw)) (Or.inr (w21 hw)) (by decide) (t := .byte) (t' := (.array .byte)) (by decide) (by decide))))
  have G12 := (OA.other (OA.other Aa2 Wh5 (Ne.symm (Nat.ne_of_lt (Nat.lt_of_lt_of_le (Nat.lt_of_lt_of_le (E0).lt (Nat.le_refl _)) ga2)))) Wh9 (Ne.symm (Nat.ne_of_lt (Nat.lt_of_lt_of_le (Nat.lt_of_lt_of_le (E0).lt (Nat.le_refl _)) ga2))))
  exact ⟨rfl, ((((Keep.refl h [x0]).trans Kh1 all0).wr Wh5 (Or.inl (List.mem_of_getElem? (i := 0) rfl))).wr Wh9 (Or.inl (List.mem_of_getElem? (i := 0) rfl))), _, (Nat.le_trans (Nat.le_refl _) ga2), G10, G11, G12⟩
set_option maxRecDepth 65536 in
set_option maxHeartbeats 40000000 in
theorem bI1_1 {l : Launch} {Z : State} {a0 : Array Value} (hw : HW a0 Z) (x0 : Addr) (x1 : Addr) {c0 : Int32} {cs : Int32} {n0 : Nat} {h : Heap} (Z0 : n0 ≤ h.size) (g0 : n0 ≤ x0) (E0 : Exa Z h x0 "java/lang/String") (F0 : Fld Z h x0 "java/lang/String" "value" "[B" .null) (F1 : Fld Z h x0 "java/lang/String" "coder" "B" (.int (0 : Int32))) (A1 : OA Z h x1 .char [(.int c0)]) (S0 : Sta Z h "java/lang/String" "COMPACT_STRINGS" "Z" (.int cs)) (hcs : ¬ cs = (0 : Int32)) (k0 : ¬ (255 : Int32) < c0) : OM [x0] l Z (⟨"java/lang/String", "<init>", "([C)V"⟩ : MethodName) jdk_42_method_3_code 2 none ⟨3, 1, 1, 52⟩ n0 h #[(.ref x0), (.ref x1)] (fun v h' => v = none ∧ Keep h h' [x0] ∧ ∃ b : Addr, h.size ≤ b ∧ Fld Z h' x0 "java/lang/String" "value" "[B" (.ref b) ∧ Fld Z h' x0 "java/lang/String" "coder" "B" (.int (0 : Int32)) ∧ OA Z h' b .byte [(.int c0.toInt8.toInt32)]) 1 1 := by
  refine OM.of_body (own_EL hw) (ls := #[.val (.ref x0), .val (.ref x1)]) (plainFor_of_name pn_0) (fun m => by first | (simp [entryFrame, mkF, argsToLocals, Value.category]; done) | rfl) ?_
  intro p e s m below meth c C
  refine OG.ow (OG.aloadN C d2_0 rfl rfl (pc' := 1) rfl) ?_
  refine OG.ow (OG.aloadN C d2_1 rfl rfl (pc' := 2) rfl) ?_
  refine OG.ow (OG.iconst C d2_2 (z := (0 : Int32)) rfl (pc' := 3) rfl) ?_
  refine OG.ow (OG.aloadN C d2_3 rfl rfl (pc' := 4) rfl) ?_
  refine OG.ow (OG.arraylength C A1 (z := (1 : Int32)) (by first | rfl | decide) d2_4 (pc' := 5) rfl) ?_
  refine OG.ow (OG.aconst_null C d2_5 (pc' := 6) rfl) ?_
  refine OW.init C (w12 hw) (w13 hw) (w7 hw) (w15 hw) rfl (by decide) (bI5_1 hw x0 x1 Z0 g0 E0 F0 F1 A1 S0 hcs k0) (allC (i := 0) rfl allN) d2_6 pd_0 rfl (argsL := [(.ref x1), (.int (0 : Int32)), (.int (1 : Int32)), .null]) (rest := []) rfl rfl (W := 0) rfl (by decide) (by decide) (by decide) (by decide) (pc' := 9) rfl ?_
  intro vh1 h1 qh1
  obtain ⟨rfl, Kh1, a2, ga2, Vh1, Ch1, Aa2⟩ := qh1
  refine OW.retV C d2_9 (by decide) (by decide) ?_
  exact ⟨rfl, ((Keep.refl h [x0]).trans Kh1 (allS (Or.inl (List.mem_of_getElem? (i := 0) rfl)) all0)), _, ga2, Vh1, Ch1, Aa2⟩
set_option maxRecDepth 65536 in
set_option maxHeartbeats 40000000 in
theorem bC5_2 {l : Launch} {Z : State} {a0 : Array Value} (hw : HW a0 Z) (x0 : Addr) (x2 : Addr) {c0 c1 : Int32}  {n0 : Nat} {h : Heap} (Z0 : n0 ≤ h.size) (g2 : n0 ≤ x2) (A0 : OA Z h x0 .char [(.int c0), (.int c1)]) (A2 : OA Z h x2 .byte [(.int (0 : Int32)), (.int (0 : Int32))]) (k0 : ¬ (255 : Int32) < c0) (k1 : ¬ (255 : Int32) < c1) (hne : x0 ≠ x2) : OM [x2] l Z (⟨"java/lang/StringUTF16", "compress", "([CI[BII)I"⟩ : MethodName) jdk_52_method_21_code 7 (some .int) ⟨0, 0, 0, 0⟩ n0 h #[(.ref x0), (.int (0 : Int32)), (.ref x2), (.int (0 : Int32)), (.int (2 : Int32))] (fun v h' => v = some (.int (2 : Int32)) ∧ Keep h h' [x2] ∧ OA Z h' x2 .byte [(.int c0.toInt8.toInt32), (.int c1.toInt8.toInt32)]) 0 0 := by
  refine OM.of_body (own_EL hw) (ls := #[.val (.ref x0), .val (.int (0 : Int32)), .val (.ref x2), .val (.int (0 : Int32)), .val (.int (2 : Int32)), .unset, .unset]) (plainFor_of_name pn_1) (fun m => by first | (simp [entryFrame, mkF, argsToLocals, Value.category]; done) | rfl) ?_
  intro p e s m below meth c C
  refine OG.ow (OG.iconst C d6_0 (z := (0 : Int32)) rfl (pc' := 1) rfl) ?_
  refine OG.ow (OG.istore C d6_1 (ls' := #[.val (.ref x0), .val (.int (0 : Int32)), .val (.ref x2), .val (.int (0 : Int32)), .val (.int (2 : Int32)), .val (.int (0 : Int32)), .unset]) rfl (pc' := 3) rfl) ?_
  refine OG.ow (OG.iload C d6_3 rfl (pc' := 5) rfl) ?_
  refine OG.ow (OG.iload C d6_5 rfl (pc' := 7) rfl) ?_
  refine OG.ow (OG.icmpNo C d6_7 (tlt (by decide : (0 : Int32) < (2 : Int32))).2.1 (pc' := 10) rfl) ?_
  refine OG.ow (OG.aloadN C d6_10 rfl rfl (pc' := 11) rfl) ?_
  refine OG.ow (OG.iloadN C d6_11 rfl (pc' := 12) rfl) ?_
  refine OG.ow (OG.caload C A0 (own_ib (n := 2) rfl (by decide)) rfl d6_12 (pc' := 13) rfl) ?_
  refine OG.ow (OG.istore C d6_13 (ls' := #[.val (.ref x0), .val (.int (0 : Int32)), .val (.ref x2), .val (.int (0 : Int32)), .val (.int (2 : Int32)), .val (.int (0 : Int32)), .val (.int c0)]) rfl (pc' := 15) rfl) ?_
  refine OG.ow (OG.iload C d6_15 rfl (pc' := 17) rfl) ?_
  refine OG.ow (OG.sipush C d6_17 (z := (255 : Int32)) (by decide) (pc' := 20) rfl) ?_
  refine OG.ow (OG.icmpYes C d6_20 (flt k0).2.2.2 (by decide) (pc' := 26) (by decide)) ?_
  refine OG.ow (OG.aloadN C d6_26 rfl rfl (pc' := 27) rfl) ?_
  refine OG.ow (OG.iloadN C d6_27 rfl (pc' := 28) rfl) ?_
  refine OG.ow (OG.iload C d6_28 rfl (pc' := 30) rfl) ?_
  refine OG.ow (OG.i2b C d6_30 (pc' := 31) rfl) ?_
  refine OW.bastore C A2 (own_ib (n := 2) rfl (by decide)) g2 (fun _ _ S => S _ (List.mem_of_getElem? (i := 0) rfl)) d6_31 (pc' := 32) rfl ?_
  intro h1 Wh1
  rw [(own_nb _)] at Wh1
  have G2 : OA Z h1 x2 .byte [(.int c0.toInt8.toInt32), (.int (0 : Int32))] := OA.same A2 Wh1
  refine OG.ow (OG.iinc C d6_32 (z := (1 : Int32)) rfl rfl (ls' := #[.val (.ref x0), .val (.int (1 : Int32)), .val (.ref x2), .val (.int (0 : Int32)), .val (.int (2 : Int32)), .val (.int (0 : Int32)), .val (.int c0)]) (by rw [show (0 : Int32) + (1 : Int32) = (1 : Int32) by decide]; rfl) (pc' := 35) rfl) ?_
  refine OG.ow (OG.iinc C d6_35 (z := (1 : Int32)) rfl rfl (ls' := #[.val (.ref x0), .val (.int (1 : Int32)), .val (.ref x2), .val (.int (1 : Int32)), .val (.int (2 : Int32)), .val (.int (0 : Int32)), .val (.int c0)]) (by rw [show (0 : Int32) + (1 : Int32) = (1 : Int32) by decide]; rfl) (pc' := 38) rfl) ?_
  refine OG.ow (OG.iinc C d6_38 (z := (1 : Int32)) rfl rfl (ls' := #[.val (.ref x0), .val (.int (1 : Int32)), .val (.ref x2), .val (.int (1 : Int32)), .val (.int (2 : Int32)), .val (.int (1 : Int32)), .val (.int c0)]) (by rw [show (0 : Int32) + (1 : Int32) = (1 : Int32) by decide]; rfl) (pc' := 41) rfl) ?_
  refine OG.ow (OG.goto C d6_41 (by decide) (pc' := 3) (by decide)) ?_
  refine OG.ow (OG.iload C d6_3 rfl (pc' := 5) rfl) ?_
  refine OG.ow (OG.iload C d6_5 rfl (pc' := 7) rfl) ?_
  refine OG.ow (OG.icmpNo C d6_7 (tlt (by decide : (1 : Int32) < (2 : Int32))).2.1 (pc' := 10) rfl) ?_
  refine OG.ow (OG.aloadN C d6_10 rfl rfl (pc' := 11) rfl) ?_
  refine OG.ow (OG.iloadN C d6_11 rfl (pc' := 12) rfl) ?_
  have G3 := (OA.other A0 Wh1 hne)
  refine OG.ow (OG.caload C G3 (own_ib (n := 2) rfl (by decide)) rfl d6_12 (pc' := 13) rfl) ?_
  refine OG.ow (OG.istore C d6_13 (ls' := #[.val (.ref x0), .val (.int (1 : Int32)), .val (.ref x2), .val (.int (1 : Int32)), .val (.int (2 : Int32)), .val (.int (1 : Int32)), .val (.int c1)]) rfl (pc' := 15) rfl) ?_
  refine OG.ow (OG.iload C d6_15 rfl (pc' := 17) rfl) ?_
  refine OG.ow (OG.sipush C d6_17 (z := (255 : Int32)) (by decide) (pc' := 20) rfl) ?_
  refine OG.ow (OG.icmpYes C d6_20 (flt k1).2.2.2 (by decide) (pc' := 26) (by decide)) ?_
  refine OG.ow (OG.aloadN C d6_26 rfl rfl (pc' := 27) rfl) ?_
  refine OG.ow (OG.iloadN C d6_27 rfl (pc' := 28) rfl) ?_
  refine OG.ow (OG.iload C d6_28 rfl (pc' := 30) rfl) ?_
  refine OG.ow (OG.i2b C d6_30 (pc' := 31) rfl) ?_
  refine OW.bastore C G2 (own_ib (n := 2) rfl (by decide)) g2 (fun _ _ S => S _ (List.mem_of_getElem? (i := 0) rfl)) d6_31 (pc' := 32) rfl ?_
  intro h4 Wh4
  rw [(own_nb _)] at Wh4
  have G5 : OA Z h4 x2 .byte [(.int c0.toInt8.toInt32), (.int c1.toInt8.toInt32)] := OA.same G2 Wh4
  refine OG.ow (OG.iinc C d6_32 (z := (1 : Int32)) rfl rfl (ls' := #[.val (.ref x0), .val (.int (2 : Int32)), .val (.ref x2), .val (.int (1 : Int32)), .val (.int (2 : Int32)), .val (.int (1 : Int32)), .val (.int c1)]) (by rw [show (1 : Int32) + (1 : Int32) = (2 : Int32) by decide]; rfl) (pc' := 35) rfl) ?_
  refine OG.ow (OG.iinc C d6_35 (z := (1 : Int32)) rfl rfl (ls' := #[.val (.ref x0), .val (.int (2 : Int32)), .val (.ref x2), .val (.int (2 : Int32)), .val (.int (2 : Int32)), .val (.int (1 : Int32)), .val (.int c1)]) (by rw [show (1 : Int32) + (1 : Int32) = (2 : Int32) by decide]; rfl) (pc' := 38) rfl) ?_
  refine OG.ow (OG.iinc C d6_38 (z := (1 : Int32)) rfl rfl (ls' := #[.val (.ref x0), .val (.int (2 : Int32)), .val (.ref x2), .val (.int (2 : Int32)), .val (.int (2 : Int32)), .val (.int (2 : Int32)), .val (.int c1)]) (by rw [show (1 : Int32) + (1 : Int32) = (2 : Int32) by decide]; rfl) (pc' := 41) rfl) ?_
  refine OG.ow (OG.goto C d6_41 (by decide) (pc' := 3) (by decide)) ?_
  refine OG.ow (OG.iload C d6_3 rfl (pc' := 5) rfl) ?_
  refine OG.ow (OG.iload C d6_5 rfl (pc' := 7) rfl) ?_
  refine OG.ow (OG.icmpYes C d6_7 (flt (by decide : ¬ ((2 : Int32) < (2 : Int32)))).2.1 (by decide) (pc' := 44) (by decide)) ?_
  refine OG.ow (OG.iload C d6_44 rfl (pc' := 46) rfl) ?_
  refine OW.retI C d6_46 (by decide) (by decide) ?_
  exact ⟨rfl, (((Keep.refl h [x2]).wr Wh1 (Or.inl (List.mem_of_getElem? (i := 0) rfl))).wr Wh4 (Or.inl (List.mem_of_getElem? (i := 0) rfl))), G5⟩
set_option maxRecDepth 65536 in
set_option maxHeartbeats 40000000 in
theorem bC3_2 {l : Launch} {Z : State} {a0 : Array Value} (hw : HW a0 Z) (x0 : Addr) {c0 c1 : Int32}  {n0 : Nat} {h : Heap} (Z0 : n0 ≤ h.size) (A0 : OA Z h x0 .char [(.int c0), (.int c1)]) (k0 : ¬ (255 : Int32) < c0) (k1 : ¬ (255 : Int32) < c1) : OM [] l Z (⟨"java/lang/StringUTF16", "compress", "([CII)[B"⟩ : MethodName) jdk_52_method_16_code 6 (some (.array .byte)) ⟨1, 1, 2, 18⟩ n0 h #[(.ref x0), (.int (0 : Int32)), (.int (2 : Int32))] (fun v h' => ∃ b : Addr, v = some (.ref b) ∧ h.size ≤ b ∧ Keep h h' [] ∧ OA Z h' b .byte [(.int c0.toInt8.toInt32), (.int c1.toInt8.toInt32)]) 1 2 := by
  refine OM.of_body (own_EL hw) (ls := #[.val (.ref x0), .val (.int (0 : Int32)), .val (.int (2 : Int32)), .unset, .unset, .unset]) (plainFor_of_name pn_1) (fun m => by first | (simp [entryFrame, mkF, argsToLocals, Value.category]; done) | rfl) ?_
  intro p e s m below meth c C
  refine OG.ow (OG.iloadN C d5_0 rfl (pc' := 1) rfl) ?_
  refine OW.newP C (ty := .byte) rfl (w20 hw) (by decide) (cap := 2) (by decide) (by decide) d5_1 (by decide) (by decide) (pc' := 3) rfl ?_
  intro a1 h2 ga1 Eh2 Aa1
  refine OG.ow (OG.astoreN C d5_3 rfl (ls' := #[.val (.ref x0), .val (.int (0 : Int32)), .val (.int (2 : Int32)), .val (.ref a1), .unset, .unset]) rfl (pc' := 4) rfl) ?_
  refine OG.ow (OG.aloadN C d5_4 rfl rfl (pc' := 5) rfl) ?_
  refine OG.ow (OG.iloadN C d5_5 rfl (pc' := 6) rfl) ?_
  refine OG.ow (OG.aloadN C d5_6 rfl rfl (pc' := 7) rfl) ?_
  refine OG.ow (OG.iconst C d5_7 (z := (0 : Int32)) rfl (pc' := 8) rfl) ?_
  refine OG.ow (OG.iloadN C d5_8 rfl (pc' := 9) rfl) ?_
  have G3 := (A0.ext Eh2)
  refine OW.callS C (w32 hw) (w33 hw) (w30 hw) (w34 hw) (by decide) (bC5_2 hw x0 a1 (Nat.le_trans Z0 Eh2.1) (Nat.le_trans Z0 (Nat.le_of_eq ga1)) G3 (show OA Z h2 a1 .byte [(.int (0 : Int32)), (.int (0 : Int32))] from Aa1) k0 k1 (Nat.ne_of_lt (Nat.lt_of_lt_of_le (Nat.lt_of_lt_of_le (A0).lt (Nat.le_refl _)) (Nat.le_of_eq ga1)))) (allC (i := 0) rfl allN) d5_9 pd_1 rfl (argsL := [(.ref x0), (.int (0 : Int32)), (.ref a1), (.int (0 : Int32)), (.int (2 : Int32))]) (rest := []) rfl rfl (W := 0) rfl (by decide) (by decide) (by decide) (by decide) (pc' := 12) rfl ?_
  intro vh4 h4 qh4
  obtain ⟨rfl, Kh4, Ah4⟩ := qh4
  refine OG.ow (OG.istore C d5_12 (ls' := #[.val (.ref x0), .val (.int (0 : Int32)), .val (.int (2 : Int32)), .val (.ref a1), .val (.int (2 : Int32)), .unset]) rfl (pc' := 14) rfl) ?_
  refine OG.ow (OG.iload C d5_14 rfl (pc' := 16) rfl) ?_
  refine OG.ow (OG.iloadN C d5_16 rfl (pc' := 17) rfl) ?_
  refine OG.ow (OG.icmpYes C d5_17 (teq (by decide : (2 : Int32) = (2 : Int32))).1 (by decide) (pc' := 57) (by decide)) ?_
  refine OG.ow (OG.aloadN C d5_57 rfl rfl (pc' := 58) rfl) ?_
  refine OW.retA C rfl rfl d5_58 (by decide) (by decide) ?_
  exact ⟨_, rfl, (Nat.le_of_eq ga1), (((Keep.refl h []).ext Eh2).trans Kh4 (allS (Or.inr (Nat.le_trans (Nat.le_refl _) (Nat.le_of_eq ga1))) all0)), Ah4⟩
set_option maxRecDepth 65536 in
set_option maxHeartbeats 40000000 in
theorem bCo_2 {l : Launch} {Z : State} {a0 : Array Value} (hw : HW a0 Z) (x0 : Addr) {c0 c1 : Int32}  {n0 : Nat} {h : Heap} (Z0 : n0 ≤ h.size) (A0 : OA Z h x0 .byte [(.int c0.toInt8.toInt32), (.int c1.toInt8.toInt32)]) : OM [] l Z (⟨"java/lang/StringUTF16", "coderFromArrayLen", "([BI)B"⟩ : MethodName) jdk_52_method_15_code 2 (some .byte) ⟨0, 0, 0, 0⟩ n0 h #[(.ref x0), (.int (2 : Int32))] (fun v h' => v = some (.int (0 : Int32)) ∧ h' = h) 0 0 := by
  refine OM.of_body (own_EL hw) (ls := #[.val (.ref x0), .val (.int (2 : Int32))]) (plainFor_of_name pn_1) (fun m => by first | (simp [entryFrame, mkF, argsToLocals, Value.category]; done) | rfl) ?_
  intro p e s m below meth c C
  refine OG.ow (OG.iloadN C d7_0 rfl (pc' := 1) rfl) ?_
  refine OG.ow (OG.aloadN C d7_1 rfl rfl (pc' := 2) rfl) ?_
  refine OG.ow (OG.arraylength C A0 (z := (2 : Int32)) (by first | rfl | decide) d7_2 (pc' := 3) rfl) ?_
  refine OG.ow (OG.cast (OG.isub C d7_3 (pc' := 4) rfl) (own_fr (z := (0 : Int32)) (by decide))) ?_
  refine OG.ow (OG.bipush C d7_4 (z := (31 : Int32)) (by decide) (pc' := 6) rfl) ?_
  refine OG.ow (OG.cast (OG.iushr C d7_6 (pc' := 7) rfl) (own_fr (z := (0 : Int32)) (by decide))) ?_
  refine OG.ow (OG.cast (OG.i2b C d7_7 (pc' := 8) rfl) (own_fr (z := (0 : Int32)) (by decide))) ?_
  refine OW.retN (t := .byte) C (by simp) d7_8 (by decide) (by decide) ?_
  exact ⟨rfl, rfl⟩
set_option maxRecDepth 65536 in
set_option maxHeartbeats 40000000 in
theorem bI5_2 {l : Launch} {Z : State} {a0 : Array Value} (hw : HW a0 Z) (x0 : Addr) (x1 : Addr) {c0 c1 : Int32} {cs : Int32} {n0 : Nat} {h : Heap} (Z0 : n0 ≤ h.size) (g0 : n0 ≤ x0) (E0 : Exa Z h x0 "java/lang/String") (F0 : Fld Z h x0 "java/lang/String" "value" "[B" .null) (F1 : Fld Z h x0 "java/lang/String" "coder" "B" (.int (0 : Int32))) (A1 : OA Z h x1 .char [(.int c0), (.int c1)]) (S0 : Sta Z h "java/lang/String" "COMPACT_STRINGS" "Z" (.int cs)) (hcs : ¬ cs = (0 : Int32)) (k0 : ¬ (255 : Int32) < c0) (k1 : ¬ (255 : Int32) < c1) : OM [x0] l Z (⟨"java/lang/String", "<init>", "([CIILjava/lang/Void;)V"⟩ : MethodName) jdk_42_method_149_code 6 none ⟨2, 1, 2, 35⟩ n0 h #[(.ref x0), (.ref x1), (.int (0 : Int32)), (.int (2 : Int32)), .null] (fun v h' => v = none ∧ Keep h h' [x0] ∧ ∃ b : Addr, h.size ≤ b ∧ Fld Z h' x0 "java/lang/String" "value" "[B" (.ref b) ∧ Fld Z h' x0 "java/lang/String" "coder" "B" (.int (0 : Int32)) ∧ OA Z h' b .byte [(.int c0.toInt8.toInt32), (.int c1.toInt8.toInt32)]) 1 2 := by
  refine OM.of_body (own_EL hw) (ls := #[.val (.ref x0), .val (.ref x1), .val (.int (0 : Int32)), .val (.int (2 : Int32)), .val .null, .unset]) (plainFor_of_name pn_0) (fun m => by first | (simp [entryFrame, mkF, argsToLocals, Value.category]; done) | rfl) ?_
  intro p e s m below meth c C
  refine OG.ow (OG.aloadN C d3_0 rfl rfl (pc' := 1) rfl) ?_
  refine OG.ow (OG.initO C (w16 hw) (w17 hw) (w18 hw) d3_1 rfl (by decide) (W := 0) rfl (by decide) (pc' := 4) rfl) ?_
  refine OG.ow (OG.iloadN C d3_4 rfl (pc' := 5) rfl) ?_
  refine OG.ow (OG.ifYes C d3_5 ((if0 _ _).trans (feq (by decide : ¬ ((2 : Int32) = (0 : Int32)))).2) (by decide) (pc' := 27) (by decide)) ?_
  refine OG.ow (OG.getS C (host := "") (Or.inl (w27 hw)) Via.refl S0 d3_27 (pc' := 30) rfl) ?_
  refine OG.ow (OG.ifNo C d3_30 ((if0 _ _).trans (feq hcs).1) (pc' := 33) rfl) ?_
  refine OG.ow (OG.aloadN C d3_33 rfl rfl (pc' := 34) rfl) ?_
  refine OG.ow (OG.iloadN C d3_34 rfl (pc' := 35) rfl) ?_
  refine OG.ow (OG.iloadN C d3_35 rfl (pc' := 36) rfl) ?_
  refine OW.callS C (w28 hw) (w29 hw) (w30 hw) (w31 hw) (by decide) (bC3_2 hw x1 Z0 A1 k0 k1) allN d3_36 pd_2 rfl (argsL := [(.ref x1), (.int (0 : Int32)), (.int (2 : Int32))]) (rest := []) rfl rfl (W := 0) rfl (by decide) (by decide) (by decide) (by decide) (pc' := 39) rfl ?_
  intro vh1 h1 qh1
  obtain ⟨a2, rfl, ga2, Kh1, Aa2⟩ := qh1
  refine OG.ow (OG.astore C d3_39 rfl (ls' := #[.val (.ref x0), .val (.ref x1), .val (.int (0 : Int32)), .val (.int (2 : Int32)), .val .null, .val (.ref a2)]) rfl (pc' := 41) rfl) ?_
  refine OG.ow (OG.aloadN C d3_41 rfl rfl (pc' := 42) rfl) ?_
  refine OG.ow (OG.aload C d3_42 rfl rfl (pc' := 44) rfl) ?_
  refine OG.ow (OG.iloadN C d3_44 rfl (pc' := 45) rfl) ?_
  refine OG.ow (OG.callS C (w35 hw) (w36 hw) (w30 hw) (w37 hw) (by decide) (bCo_2 hw a2 (Nat.le_trans Z0 Kh1.1) Aa2) allN d3_45 pd_3 rfl (argsL := [(.ref a2), (.int (2 : Int32))]) (rest := [(.ref x0)]) rfl rfl (W := 1) rfl (by decide) (by decide) (pc' := 48) rfl) ?_
  have G3 := (F1.keep Kh1 nin0)
  have G4 := (E0.keep Kh1)
  refine OW.putF C (host := "") (Or.inl (w26 hw)) Via.refl G3 G4 (Or.inr ⟨(w22 hw), rfl, rfl⟩) (w6 hw) (ty := .byte) (by decide) rfl rfl g0 (fun _ _ S => S _ (List.mem_of_getElem? (i := 0) rfl)) d3_48 (pc' := 51) rfl ?_
  intro h5 Wh5
  have G6 := Fld.same Wh5 G3
  refine OG.ow (OG.aloadN C d3_51 rfl rfl (pc' := 52) rfl) ?_
  refine OG.ow (OG.aload C d3_52 rfl rfl (pc' := 54) rfl) ?_
  have G7 := (Fld.other Wh5 (F0.keep Kh1 nin0) (Or.inr (slot_ne (Or.inr (w21 hw)) (Or.inr (w22 hw)) (by decide) (t := (.array .byte)) (t' := .byte) (by decide) (by decide))))
  have G8 := (Exa.wr Wh5 G4)
  refine OW.putF C (host := "") (Or.inl (w25 hw)) Via.refl G7 G8 (Or.inr ⟨(w21 hw), rfl, rfl⟩) (w6 hw) (ty := (.array .byte)) (by decide) rfl rfl g0 (fun _ _ S => S _ (List.mem_of_getElem? (i := 0) rfl)) d3_54 (pc' := 57) rfl ?_
  intro h9 Wh9
  have G10 := Fld.same Wh9 G7
  refine OW.retV C d3_57 (by decide) (by decide) ?_
  have G11 := (Fld.other Wh9 G6 (Or.inr (slot_ne (Or.inr (w22 hw)) (Or.inr (w21 hw)) (by decide) (t := .byte) (t' := (.array .byte)) (by decide) (by decide))))
  have G12 := (OA.other (OA.other Aa2 Wh5 (Ne.symm (Nat.ne_of_lt (Nat.lt_of_lt_of_le (Nat.lt_of_lt_of_le (E0).lt (Nat.le_refl _)) ga2)))) Wh9 (Ne.symm (Nat.ne_of_lt (Nat.lt_of_lt_of_le (Nat.lt_of_lt_of_le (E0).lt (Nat.le_refl _)) ga2))))
  exact ⟨rfl, ((((Keep.refl h [x0]).trans Kh1 all0).wr Wh5 (Or.inl (List.mem_of_getElem? (i := 0) rfl))).wr Wh9 (Or.inl (List.mem_of_getElem? (i := 0) rfl))), _, (Nat.le_trans (Nat.le_refl _) ga2), G10, G11, G12⟩
set_option maxRecDepth 65536 in
set_option maxHeartbeats 40000000 in
theorem bI1_2 {l : Launch} {Z : State} {a0 : Array Value} (hw : HW a0 Z) (x0 : Addr) (x1 : Addr) {c0 c1 : Int32} {cs : Int32} {n0 : Nat} {h : Heap} (Z0 : n0 ≤ h.size) (g0 : n0 ≤ x0) (E0 : Exa Z h x0 "java/lang/String") (F0 : Fld Z h x0 "java/lang/String" "value" "[B" .null) (F1 : Fld Z h x0 "java/lang/String" "coder" "B" (.int (0 : Int32))) (A1 : OA Z h x1 .char [(.int c0), (.int c1)]) (S0 : Sta Z h "java/lang/String" "COMPACT_STRINGS" "Z" (.int cs)) (hcs : ¬ cs = (0 : Int32)) (k0 : ¬ (255 : Int32) < c0) (k1 : ¬ (255 : Int32) < c1) : OM [x0] l Z (⟨"java/lang/String", "<init>", "([C)V"⟩ : MethodName) jdk_42_method_3_code 2 none ⟨3, 1, 2, 52⟩ n0 h #[(.ref x0), (.ref x1)] (fun v h' => v = none ∧ Keep h h' [x0] ∧ ∃ b : Addr, h.size ≤ b ∧ Fld Z h' x0 "java/lang/String" "value" "[B" (.ref b) ∧ Fld Z h' x0 "java/lang/String" "coder" "B" (.int (0 : Int32)) ∧ OA Z h' b .byte [(.int c0.toInt8.toInt32), (.int c1.toInt8.toInt32)]) 1 2 := by
  refine OM.of_body (own_EL hw) (ls := #[.val (.ref x0), .val (.ref x1)]) (plainFor_of_name pn_0) (fun m => by first | (simp [entryFrame, mkF, argsToLocals, Value.category]; done) | rfl) ?_
  intro p e s m below meth c C
  refine OG.ow (OG.aloadN C d2_0 rfl rfl (pc' := 1) rfl) ?_
  refine OG.ow (OG.aloadN C d2_1 rfl rfl (pc' := 2) rfl) ?_
  refine OG.ow (OG.iconst C d2_2 (z := (0 : Int32)) rfl (pc' := 3) rfl) ?_
  refine OG.ow (OG.aloadN C d2_3 rfl rfl (pc' := 4) rfl) ?_
  refine OG.ow (OG.arraylength C A1 (z := (2 : Int32)) (by first | rfl | decide) d2_4 (pc' := 5) rfl) ?_
  refine OG.ow (OG.aconst_null C d2_5 (pc' := 6) rfl) ?_
  refine OW.init C (w12 hw) (w13 hw) (w7 hw) (w15 hw) rfl (by decide) (bI5_2 hw x0 x1 Z0 g0 E0 F0 F1 A1 S0 hcs k0 k1) (allC (i := 0) rfl allN) d2_6 pd_0 rfl (argsL := [(.ref x1), (.int (0 : Int32)), (.int (2 : Int32)), .null]) (rest := []) rfl rfl (W := 0) rfl (by decide) (by decide) (by decide) (by decide) (pc' := 9) rfl ?_
  intro vh1 h1 qh1
  obtain ⟨rfl, Kh1, a2, ga2, Vh1, Ch1, Aa2⟩ := qh1
  refine OW.retV C d2_9 (by decide) (by decide) ?_
  exact ⟨rfl, ((Keep.refl h [x0]).trans Kh1 (allS (Or.inl (List.mem_of_getElem? (i := 0) rfl)) all0)), _, ga2, Vh1, Ch1, Aa2⟩
theorem own_c {x c : Int32} (h : (x &&& (255 : Int32)).toUInt32.toUInt16.toUInt32.toInt32 = c) : nar .char c = c ∧ ¬ (255 : Int32) < c := by
  rw [i2c_mask] at h
  subst h
  refine ⟨?_, ?_⟩
  · show (x &&& (255 : Int32)).toUInt32.toUInt16.toUInt32.toInt32 = _
    rw [i2c_mask]
  · have := (c_and x 255 (by decide)).2
    rw [Int32.lt_iff_toInt_lt]
    have e : (255 : Int32).toInt = 255 := by decide
    omega
theorem d1_0 : decode method_3_code 0 = .ok (.iload_n 1, 1) := by decide +kernel
theorem d1_1 : decode method_3_code 1 = .ok (.sipush 255, 3) := by decide +kernel
theorem d1_4 : decode method_3_code 4 = .ok (.iand, 1) := by decide +kernel
theorem d1_5 : decode method_3_code 5 = .ok (.i2c, 1) := by decide +kernel
theorem d1_6 : decode method_3_code 6 = .ok (.istore_n 2, 1) := by decide +kernel
theorem d1_7 : decode method_3_code 7 = .ok (.iload_n 1, 1) := by decide +kernel
theorem d1_8 : decode method_3_code 8 = .ok (.bipush 8, 2) := by decide +kernel
theorem d1_10 : decode method_3_code 10 = .ok (.iushr, 1) := by decide +kernel
theorem d1_11 : decode method_3_code 11 = .ok (.sipush 255, 3) := by decide +kernel
theorem d1_14 : decode method_3_code 14 = .ok (.iand, 1) := by decide +kernel
theorem d1_15 : decode method_3_code 15 = .ok (.i2c, 1) := by decide +kernel
theorem d1_16 : decode method_3_code 16 = .ok (.istore_n 3, 1) := by decide +kernel
theorem d1_17 : decode method_3_code 17 = .ok (.iload_n 0, 1) := by decide +kernel
theorem d1_18 : decode method_3_code 18 = .ok (.ifCond .ne 14, 3) := by decide +kernel
theorem d1_21 : decode method_3_code 21 = .ok (.new 23, 3) := by decide +kernel
theorem d1_24 : decode method_3_code 24 = .ok (.dup, 1) := by decide +kernel
theorem d1_25 : decode method_3_code 25 = .ok (.iconst 0, 1) := by decide +kernel
theorem d1_26 : decode method_3_code 26 = .ok (.newarray .char, 2) := by decide +kernel
theorem d1_28 : decode method_3_code 28 = .ok (.invokespecial 25, 3) := by decide +kernel
theorem d1_31 : decode method_3_code 31 = .ok (.areturn, 1) := by decide +kernel
theorem d1_32 : decode method_3_code 32 = .ok (.iload_n 0, 1) := by decide +kernel
theorem d1_33 : decode method_3_code 33 = .ok (.iconst 1, 1) := by decide +kernel
theorem d1_34 : decode method_3_code 34 = .ok (.if_icmp .ne 18, 3) := by decide +kernel
theorem d1_37 : decode method_3_code 37 = .ok (.new 23, 3) := by decide +kernel
theorem d1_40 : decode method_3_code 40 = .ok (.dup, 1) := by decide +kernel
theorem d1_41 : decode method_3_code 41 = .ok (.iconst 1, 1) := by decide +kernel
theorem d1_42 : decode method_3_code 42 = .ok (.newarray .char, 2) := by decide +kernel
theorem d1_44 : decode method_3_code 44 = .ok (.dup, 1) := by decide +kernel
theorem d1_45 : decode method_3_code 45 = .ok (.iconst 0, 1) := by decide +kernel
theorem d1_46 : decode method_3_code 46 = .ok (.iload_n 2, 1) := by decide +kernel
theorem d1_47 : decode method_3_code 47 = .ok (.castore, 1) := by decide +kernel
theorem d1_48 : decode method_3_code 48 = .ok (.invokespecial 25, 3) := by decide +kernel
theorem d1_51 : decode method_3_code 51 = .ok (.areturn, 1) := by decide +kernel
theorem d1_52 : decode method_3_code 52 = .ok (.new 23, 3) := by decide +kernel
theorem d1_55 : decode method_3_code 55 = .ok (.dup, 1) := by decide +kernel
theorem d1_56 : decode method_3_code 56 = .ok (.iconst 2, 1) := by decide +kernel
theorem d1_57 : decode method_3_code 57 = .ok (.newarray .char, 2) := by decide +kernel
theorem d1_59 : decode method_3_code 59 = .ok (.dup, 1) := by decide +kernel
theorem d1_60 : decode method_3_code 60 = .ok (.iconst 0, 1) := by decide +kernel
theorem d1_61 : decode method_3_code 61 = .ok (.iload_n 2, 1) := by decide +kernel
theorem d1_62 : decode method_3_code 62 = .ok (.castore, 1) := by decide +kernel
theorem d1_63 : decode method_3_code 63 = .ok (.dup, 1) := by decide +kernel
theorem d1_64 : decode method_3_code 64 = .ok (.iconst 1, 1) := by decide +kernel
theorem d1_65 : decode method_3_code 65 = .ok (.iload_n 3, 1) := by decide +kernel
theorem d1_66 : decode method_3_code 66 = .ok (.castore, 1) := by decide +kernel
theorem d1_67 : decode method_3_code 67 = .ok (.invokespecial 25, 3) := by decide +kernel
theorem d1_70 : decode method_3_code 70 = .ok (.areturn, 1) := by decide +kernel
set_option maxRecDepth 65536 in
set_option maxHeartbeats 40000000 in
theorem b1 {l : Launch} {Z : State} {a0 : Array Value} (hw : HW a0 Z) (x0 : Int32) (x1 : Int32) {cs : Int32} {n0 : Nat} {h : Heap} (Z0 : n0 ≤ h.size) (S0 : Sta Z h "java/lang/String" "COMPACT_STRINGS" "Z" (.int cs)) (hcs : ¬ cs = (0 : Int32)) : OM [] l Z (⟨"com/example/gleaner/gleaner/harvest/ValidatorsIsEmptyPinLaw", "make", "(II)Ljava/lang/String;"⟩ : MethodName) method_3_code 4 (some (.object "java/lang/String")) ⟨4, 6, 12, 66⟩ n0 h #[(.int x0), (.int x1)] (fun v h' => ∃ a : Addr, v = some (.ref a) ∧ Keep h h' [] ∧ Exa Z h' a "java/lang/String" ∧ ∃ (q : Addr) (vs : List Value), Fld Z h' a "java/lang/String" "value" "[B" (.ref q) ∧ OA Z h' q .byte vs ∧ ((vs.length.toInt32 = (0 : Int32)) ↔ x0 = (0 : Int32))) 6 12 := by
  refine OM.of_body (own_EL hw) (ls := #[.val (.int x0), .val (.int x1), .unset, .unset]) (plainFor_of_name pn_2) (fun m => by first | (simp [entryFrame, mkF, argsToLocals, Value.category]; done) | rfl) ?_
  intro p e s m below meth c C
  refine OG.ow (OG.iloadN C d1_0 rfl (pc' := 1) rfl) ?_
  refine OG.ow (OG.sipush C d1_1 (z := (255 : Int32)) (by decide) (pc' := 4) rfl) ?_
  refine OG.ow (OG.iand C d1_4 (pc' := 5) rfl) ?_
  refine OG.ow (OG.i2c C d1_5 (pc' := 6) rfl) ?_
  generalize hb0 : (x1 &&& (255 : Int32)).toUInt32.toUInt16.toUInt32.toInt32 = c0
  obtain ⟨n0, k0⟩ := own_c hb0
  refine OG.ow (OG.istoreN C d1_6 (ls' := #[.val (.int x0), .val (.int x1), .val (.int c0), .unset]) rfl (pc' := 7) rfl) ?_
  refine OG.ow (OG.iloadN C d1_7 rfl (pc' := 8) rfl) ?_
  refine OG.ow (OG.bipush C d1_8 (z := (8 : Int32)) (by decide) (pc' := 10) rfl) ?_
  refine OG.ow (OG.iushr C d1_10 (pc' := 11) rfl) ?_
  refine OG.ow (OG.sipush C d1_11 (z := (255 : Int32)) (by decide) (pc' := 14) rfl) ?_
  refine OG.ow (OG.iand C d1_14 (pc' := 15) rfl) ?_
  refine OG.ow (OG.i2c C d1_15 (pc' := 16) rfl) ?_
  generalize hb1 : ((x1.toUInt32 >>> ((8 : Int32) &&& 31).toUInt32).toInt32 &&& (255 : Int32)).toUInt32.toUInt16.toUInt32.toInt32 = c1
  obtain ⟨n1, k1⟩ := own_c hb1
  refine OG.ow (OG.istoreN C d1_16 (ls' := #[.val (.int x0), .val (.int x1), .val (.int c0), .val (.int c1)]) rfl (pc' := 17) rfl) ?_
  refine OG.ow (OG.iloadN C d1_17 rfl (pc' := 18) rfl) ?_
  by_cases hc1 : x0 = (0 : Int32)
  · refine OG.ow (OG.ifNo C d1_18 ((if0 _ _).trans (teq hc1).2) (pc' := 21) rfl) ?_
    refine OW.newO C (w5 hw) (w6 hw) (w7 hw) d1_21 (by decide) (by decide) (pc' := 24) rfl ?_
    intro a2 h3 ga2 Eh3 Aa2 Da2
    refine OG.ow (OG.dup C d1_24 rfl (pc' := 25) rfl) ?_
    refine OG.ow (OG.iconst C d1_25 (z := (0 : Int32)) rfl (pc' := 26) rfl) ?_
    refine OW.newP C (ty := .char) rfl (w8 hw) (by decide) (cap := 0) (by decide) (by decide) d1_26 (by decide) (by decide) (pc' := 28) rfl ?_
    intro a4 h5 ga4 Eh5 Aa4
    have G6 := (Exa.ext Eh5 Aa2)
    have G7 := (Fld.ext Eh5 (show Fld Z h3 a2 "java/lang/String" "value" "[B" .null from Da2 (Or.inr (w21 hw)) (ty := (.array .byte)) (by decide)))
    have G8 := (Fld.ext Eh5 (show Fld Z h3 a2 "java/lang/String" "coder" "B" (.int (0 : Int32)) from Da2 (Or.inr (w22 hw)) (ty := .byte) (by decide)))
    refine OW.init C (w9 hw) (w10 hw) (w7 hw) (w11 hw) rfl (by decide) (bI1_0 hw a2 a4 (Nat.le_trans (Nat.le_trans Z0 Eh3.1) Eh5.1) (Nat.le_trans Z0 (Nat.le_of_eq ga2)) G6 G7 G8 (show OA Z h5 a4 .char [] from Aa4)) (allC (i := 1) rfl allN) d1_28 pd_4 rfl (argsL := [(.ref a4)]) (rest := [(.ref a2)]) rfl rfl (W := 1) rfl (by decide) (by decide) (by decide) (by decide) (pc' := 31) rfl ?_
    intro vh9 h9 qh9
    obtain ⟨rfl, Kh9, b10, Vh9, Ch9, Ab10⟩ := qh9
    refine OW.retA C rfl rfl d1_31 (by decide) (by decide) ?_
    have G11 := (G6.keep Kh9)
    exact ⟨_, rfl, ((((Keep.refl h []).ext Eh3).ext Eh5).trans Kh9 (allS (Or.inr (Nat.le_trans (Nat.le_refl _) (Nat.le_of_eq ga2))) all0)), G11, _, _, Vh9, Ab10, ⟨fun _ => hc1, fun _ => rfl⟩⟩
  · refine OG.ow (OG.ifYes C d1_18 ((if0 _ _).trans (feq hc1).2) (by decide) (pc' := 32) (by decide)) ?_
    refine OG.ow (OG.iloadN C d1_32 rfl (pc' := 33) rfl) ?_
    refine OG.ow (OG.iconst C d1_33 (z := (1 : Int32)) rfl (pc' := 34) rfl) ?_
    by_cases hc12 : x0 = (1 : Int32)
    · refine OG.ow (OG.icmpNo C d1_34 (teq hc12).2 (pc' := 37) rfl) ?_
      refine OW.newO C (w5 hw) (w6 hw) (w7 hw) d1_37 (by decide) (by decide) (pc' := 40) rfl ?_
      intro a13 h14 ga13 Eh14 Aa13 Da13
      refine OG.ow (OG.dup C d1_40 rfl (pc' := 41) rfl) ?_
      refine OG.ow (OG.iconst C d1_41 (z := (1 : Int32)) rfl (pc' := 42) rfl) ?_
      refine OW.newP C (ty := .char) rfl (w8 hw) (by decide) (cap := 1) (by decide) (by decide) d1_42 (by decide) (by decide) (pc' := 44) rfl ?_
      intro a15 h16 ga15 Eh16 Aa15
      refine OG.ow (OG.dup C d1_44 rfl (pc' := 45) rfl) ?_
      refine OG.ow (OG.iconst C d1_45 (z := (0 : Int32)) rfl (pc' := 46) rfl) ?_
      refine OG.ow (OG.iloadN C d1_46 rfl (pc' := 47) rfl) ?_
      refine OW.castore C (show OA Z h16 a15 .char [(.int (0 : Int32))] from Aa15) (own_ib (n := 1) rfl (by decide)) (Nat.le_trans (Nat.le_trans Z0 Eh14.1) (Nat.le_of_eq ga15)) (fun _ _ S => S _ (List.mem_of_getElem? (i := 0) rfl)) d1_47 (pc' := 48) rfl ?_
      intro h17 Wh17
      rw [n0] at Wh17
      have G18 : OA Z h17 a15 .char [(.int c0)] := OA.same (show OA Z h16 a15 .char [(.int (0 : Int32))] from Aa15) Wh17
      have G19 := (Exa.wr Wh17 (Exa.ext Eh16 Aa13))
      have G20 := (Fld.other Wh17 (Fld.ext Eh16 (show Fld Z h14 a13 "java/lang/String" "value" "[B" .null from Da13 (Or.inr (w21 hw)) (ty := (.array .byte)) (by decide))) (Or.inl (Nat.ne_of_lt (Nat.lt_of_lt_of_le (Nat.lt_of_lt_of_le (Aa13).lt (Nat.le_refl _)) (Nat.le_of_eq ga15)))))
      have G21 := (Fld.other Wh17 (Fld.ext Eh16 (show Fld Z h14 a13 "java/lang/String" "coder" "B" (.int (0 : Int32)) from Da13 (Or.inr (w22 hw)) (ty := .byte) (by decide))) (Or.inl (Nat.ne_of_lt (Nat.lt_of_lt_of_le (Nat.lt_of_lt_of_le (Aa13).lt (Nat.le_refl _)) (Nat.le_of_eq ga15)))))
      have G22 := (Sta.wr Wh17 (Sta.ext Eh16 (Sta.ext Eh14 S0)))
      refine OW.init C (w9 hw) (w10 hw) (w7 hw) (w11 hw) rfl (by decide) (bI1_1 hw a13 a15 (Nat.le_trans (Nat.le_trans (Nat.le_trans Z0 Eh14.1) Eh16.1) (Nat.le_of_eq Wh17.size.symm)) (Nat.le_trans Z0 (Nat.le_of_eq ga13)) G19 G20 G21 G18 G22 hcs k0) (allC (i := 1) rfl allN) d1_48 pd_4 rfl (argsL := [(.ref a15)]) (rest := [(.ref a13)]) rfl rfl (W := 1) rfl (by decide) (by decide) (by decide) (by decide) (pc' := 51) rfl ?_
      intro vh23 h23 qh23
      obtain ⟨rfl, Kh23, a24, ga24, Vh23, Ch23, Aa24⟩ := qh23
      refine OW.retA C rfl rfl d1_51 (by decide) (by decide) ?_
      have G25 := (G19.keep Kh23)
      exact ⟨_, rfl, (((((Keep.refl h []).ext Eh14).ext Eh16).wr Wh17 (Or.inr (Nat.le_trans (Nat.le_trans (Nat.le_refl _) Eh14.1) (Nat.le_of_eq ga15)))).trans Kh23 (allS (Or.inr (Nat.le_trans (Nat.le_refl _) (Nat.le_of_eq ga13))) all0)), G25, _, _, Vh23, Aa24, ⟨fun q => absurd (show (1 : Nat).toInt32 = (0 : Int32) from q) (by decide), fun q => absurd q hc1⟩⟩
    · refine OG.ow (OG.icmpYes C d1_34 (feq hc12).2 (by decide) (pc' := 52) (by decide)) ?_
      refine OW.newO C (w5 hw) (w6 hw) (w7 hw) d1_52 (by decide) (by decide) (pc' := 55) rfl ?_
      intro a26 h27 ga26 Eh27 Aa26 Da26
      refine OG.ow (OG.dup C d1_55 rfl (pc' := 56) rfl) ?_
      refine OG.ow (OG.iconst C d1_56 (z := (2 : Int32)) rfl (pc' := 57) rfl) ?_
      refine OW.newP C (ty := .char) rfl (w8 hw) (by decide) (cap := 2) (by decide) (by decide) d1_57 (by decide) (by decide) (pc' := 59) rfl ?_
      intro a28 h29 ga28 Eh29 Aa28
      refine OG.ow (OG.dup C d1_59 rfl (pc' := 60) rfl) ?_
      refine OG.ow (OG.iconst C d1_60 (z := (0 : Int32)) rfl (pc' := 61) rfl) ?_
      refine OG.ow (OG.iloadN C d1_61 rfl (pc' := 62) rfl) ?_
      refine OW.castore C (show OA Z h29 a28 .char [(.int (0 : Int32)), (.int (0 : Int32))] from Aa28) (own_ib (n := 2) rfl (by decide)) (Nat.le_trans (Nat.le_trans Z0 Eh27.1) (Nat.le_of_eq ga28)) (fun _ _ S => S _ (List.mem_of_getElem? (i := 0) rfl)) d1_62 (pc' := 63) rfl ?_
      intro h30 Wh30
      rw [n0] at Wh30
      have G31 : OA Z h30 a28 .char [(.int c0), (.int (0 : Int32))] := OA.same (show OA Z h29 a28 .char [(.int (0 : Int32)), (.int (0 : Int32))] from Aa28) Wh30
      refine OG.ow (OG.dup C d1_63 rfl (pc' := 64) rfl) ?_
      refine OG.ow (OG.iconst C d1_64 (z := (1 : Int32)) rfl (pc' := 65) rfl) ?_
      refine OG.ow (OG.iloadN C d1_65 rfl (pc' := 66) rfl) ?_
      refine OW.castore C G31 (own_ib (n := 2) rfl (by decide)) (Nat.le_trans (Nat.le_trans Z0 Eh27.1) (Nat.le_of_eq ga28)) (fun _ _ S => S _ (List.mem_of_getElem? (i := 0) rfl)) d1_66 (pc' := 67) rfl ?_
      intro h32 Wh32
      rw [n1] at Wh32
      have G33 : OA Z h32 a28 .char [(.int c0), (.int c1)] := OA.same G31 Wh32
      have G34 := (Exa.wr Wh32 (Exa.wr Wh30 (Exa.ext Eh29 Aa26)))
      have G35 := (Fld.other Wh32 (Fld.other Wh30 (Fld.ext Eh29 (show Fld Z h27 a26 "java/lang/String" "value" "[B" .null from Da26 (Or.inr (w21 hw)) (ty := (.array .byte)) (by decide))) (Or.inl (Nat.ne_of_lt (Nat.lt_of_lt_of_le (Nat.lt_of_lt_of_le (Aa26).lt (Nat.le_refl _)) (Nat.le_of_eq ga28))))) (Or.inl (Nat.ne_of_lt (Nat.lt_of_lt_of_le (Nat.lt_of_lt_of_le (Aa26).lt (Nat.le_refl _)) (Nat.le_of_eq ga28)))))
      have G36 := (Fld.other Wh32 (Fld.other Wh30 (Fld.ext Eh29 (show Fld Z h27 a26 "java/lang/String" "coder" "B" (.int (0 : Int32)) from Da26 (Or.inr (w22 hw)) (ty := .byte) (by decide))) (Or.inl (Nat.ne_of_lt (Nat.lt_of_lt_of_le (Nat.lt_of_lt_of_le (Aa26).lt (Nat.le_refl _)) (Nat.le_of_eq ga28))))) (Or.inl (Nat.ne_of_lt (Nat.lt_of_lt_of_le (Nat.lt_of_lt_of_le (Aa26).lt (Nat.le_refl _)) (Nat.le_of_eq ga28)))))
      have G37 := (Sta.wr Wh32 (Sta.wr Wh30 (Sta.ext Eh29 (Sta.ext Eh27 S0))))
      refine OW.init C (w9 hw) (w10 hw) (w7 hw) (w11 hw) rfl (by decide) (bI1_2 hw a26 a28 (Nat.le_trans (Nat.le_trans (Nat.le_trans (Nat.le_trans Z0 Eh27.1) Eh29.1) (Nat.le_of_eq Wh30.size.symm)) (Nat.le_of_eq Wh32.size.symm)) (Nat.le_trans Z0 (Nat.le_of_eq ga26)) G34 G35 G36 G33 G37 hcs k0 k1) (allC (i := 1) rfl allN) d1_67 pd_4 rfl (argsL := [(.ref a28)]) (rest := [(.ref a26)]) rfl rfl (W := 1) rfl (by decide) (by decide) (by decide) (by decide) (pc' := 70) rfl ?_
      intro vh38 h38 qh38
      obtain ⟨rfl, Kh38, a39, ga39, Vh38, Ch38, Aa39⟩ := qh38
      refine OW.retA C rfl rfl d1_70 (by decide) (by decide) ?_
      have G40 := (G34.keep Kh38)
      exact ⟨_, rfl, ((((((Keep.refl h []).ext Eh27).ext Eh29).wr Wh30 (Or.inr (Nat.le_trans (Nat.le_trans (Nat.le_refl _) Eh27.1) (Nat.le_of_eq ga28)))).wr Wh32 (Or.inr (Nat.le_trans (Nat.le_trans (Nat.le_refl _) Eh27.1) (Nat.le_of_eq ga28)))).trans Kh38 (allS (Or.inr (Nat.le_trans (Nat.le_refl _) (Nat.le_of_eq ga26))) all0)), G40, _, _, Vh38, Aa39, ⟨fun q => absurd (show (2 : Nat).toInt32 = (0 : Int32) from q) (by decide), fun q => absurd q hc1⟩⟩
theorem d11_0 : decode jdk_42_method_55_code 0 = .ok (.aload_n 0, 1) := by decide +kernel
theorem d11_1 : decode jdk_42_method_55_code 1 = .ok (.getfield 9, 3) := by decide +kernel
theorem d11_4 : decode jdk_42_method_55_code 4 = .ok (.arraylength, 1) := by decide +kernel
theorem d11_5 : decode jdk_42_method_55_code 5 = .ok (.ifCond .ne 7, 3) := by decide +kernel
theorem d11_8 : decode jdk_42_method_55_code 8 = .ok (.iconst 1, 1) := by decide +kernel
theorem d11_9 : decode jdk_42_method_55_code 9 = .ok (.goto 4, 3) := by decide +kernel
theorem d11_12 : decode jdk_42_method_55_code 12 = .ok (.iconst 0, 1) := by decide +kernel
theorem d11_13 : decode jdk_42_method_55_code 13 = .ok (.ireturn, 1) := by decide +kernel
set_option maxRecDepth 65536 in
set_option maxHeartbeats 40000000 in
theorem b11 {l : Launch} {Z : State} {a0 : Array Value} (hw : HW a0 Z) (x0 : Addr) {q : Addr} {vs : List Value} {n0 : Nat} {h : Heap} (Z0 : n0 ≤ h.size) (F0 : Fld Z h x0 "java/lang/String" "value" "[B" (.ref q)) (A0 : OA Z h q .byte vs) : OM [] l Z (⟨"java/lang/String", "isEmpty", "()Z"⟩ : MethodName) jdk_42_method_55_code 1 (some .boolean) ⟨0, 0, 0, 0⟩ n0 h #[(.ref x0)] (fun v h' => v = some (.int (if vs.length.toInt32 = (0 : Int32) then (1 : Int32) else (0 : Int32))) ∧ h' = h) 0 0 := by
  refine OM.of_body (own_EL hw) (ls := #[.val (.ref x0)]) (plainFor_of_name pn_0) (fun m => by first | (simp [entryFrame, mkF, argsToLocals, Value.category]; done) | rfl) ?_
  intro p e s m below meth c C
  refine OG.ow (OG.aloadN C d11_0 rfl rfl (pc' := 1) rfl) ?_
  refine OG.ow (OG.getF C (host := "") (Or.inl (w25 hw)) Via.refl F0 d11_1 (pc' := 4) rfl) ?_
  refine OG.ow (OG.arraylength C A0 (z := vs.length.toInt32) rfl d11_4 (pc' := 5) rfl) ?_
  refine OG.ow (OG.ite (α := Int32) (P := vs.length.toInt32 = (0 : Int32)) (f := fun v => (mkF m 13 #[.val (.ref x0)] [(.int v)])) (x := (1 : Int32)) (y := (0 : Int32)) (fun hc => ?_) (fun hc => ?_)) ?_
  · refine OG.trans (OG.ifNo C d11_5 ((if0 _ _).trans (teq hc).2) (pc' := 8) rfl) ?_
    refine OG.trans (OG.iconst C d11_8 (z := (1 : Int32)) rfl (pc' := 9) rfl) ?_
    refine OG.trans (OG.goto C d11_9 (by decide) (pc' := 13) (by decide)) ?_
    exact OG.refl
  · refine OG.trans (OG.ifYes C d11_5 ((if0 _ _).trans (feq hc).2) (by decide) (pc' := 12) (by decide)) ?_
    refine OG.trans (OG.iconst C d11_12 (z := (0 : Int32)) rfl (pc' := 13) rfl) ?_
    exact OG.refl
  refine OW.retN (t := .boolean) C (by simp) d11_13 (by decide) (by decide) ?_
  refine ⟨congrArg (fun z => some (Value.int z)) ?_, rfl⟩
  by_cases q1 : vs.length.toInt32 = (0 : Int32) <;> simp only [q1, if_true, if_false] <;> decide
theorem d9_0 : decode jdk_30_method_1_code 0 = .ok (.aload_n 0, 1) := by decide +kernel
theorem d9_1 : decode jdk_30_method_1_code 1 = .ok (.invokespecial 1, 3) := by decide +kernel
theorem d9_4 : decode jdk_30_method_1_code 4 = .ok (.return_, 1) := by decide +kernel
set_option maxRecDepth 65536 in
set_option maxHeartbeats 40000000 in
theorem b9 {l : Launch} {Z : State} {a0 : Array Value} (hw : HW a0 Z) (x0 : Addr) {n0 : Nat} {h : Heap} (Z0 : n0 ≤ h.size) : OM [] l Z (⟨"java/lang/Record", "<init>", "()V"⟩ : MethodName) jdk_30_method_1_code 1 none ⟨1, 0, 0, 12⟩ n0 h #[(.ref x0)] (fun v h' => v = none ∧ h' = h) 0 0 := by
  refine OM.of_body (own_EL hw) (ls := #[.val (.ref x0)]) (plainFor_of_name pn_3) (fun m => by first | (simp [entryFrame, mkF, argsToLocals, Value.category]; done) | rfl) ?_
  intro p e s m below meth c C
  refine OG.ow (OG.aloadN C d9_0 rfl rfl (pc' := 1) rfl) ?_
  refine OG.ow (OG.initO C (w49 hw) (w17 hw) (w18 hw) d9_1 rfl (by decide) (W := 0) rfl (by decide) (pc' := 4) rfl) ?_
  refine OW.retV C d9_4 (by decide) (by decide) ?_
  exact ⟨rfl, rfl⟩
theorem d8_0 : decode prog_14_method_1_code 0 = .ok (.aload_n 0, 1) := by decide +kernel
theorem d8_1 : decode prog_14_method_1_code 1 = .ok (.invokespecial 1, 3) := by decide +kernel
theorem d8_4 : decode prog_14_method_1_code 4 = .ok (.aload_n 0, 1) := by decide +kernel
theorem d8_5 : decode prog_14_method_1_code 5 = .ok (.aload_n 1, 1) := by decide +kernel
theorem d8_6 : decode prog_14_method_1_code 6 = .ok (.putfield 7, 3) := by decide +kernel
theorem d8_9 : decode prog_14_method_1_code 9 = .ok (.aload_n 0, 1) := by decide +kernel
theorem d8_10 : decode prog_14_method_1_code 10 = .ok (.aload_n 2, 1) := by decide +kernel
theorem d8_11 : decode prog_14_method_1_code 11 = .ok (.putfield 13, 3) := by decide +kernel
theorem d8_14 : decode prog_14_method_1_code 14 = .ok (.return_, 1) := by decide +kernel
set_option maxRecDepth 65536 in
set_option maxHeartbeats 40000000 in
theorem b8 {l : Launch} {Z : State} {a0 : Array Value} (hw : HW a0 Z) (x0 : Addr) (x1 : Addr) (x2 : Addr) {n0 : Nat} {h : Heap} (Z0 : n0 ≤ h.size) (g0 : n0 ≤ x0) (E0 : Exa Z h x0 "com/example/gleaner/gleaner/harvest/Validators") (F0 : Fld Z h x0 "com/example/gleaner/gleaner/harvest/Validators" "lastModified" "Ljava/lang/String;" .null) (F1 : Fld Z h x0 "com/example/gleaner/gleaner/harvest/Validators" "etag" "Ljava/lang/String;" .null) : OM [] l Z (⟨"com/example/gleaner/gleaner/harvest/Validators", "<init>", "(Ljava/lang/String;Ljava/lang/String;)V"⟩ : MethodName) prog_14_method_1_code 3 none ⟨2, 0, 0, 24⟩ n0 h #[(.ref x0), (.ref x1), (.ref x2)] (fun v h' => v = none ∧ Keep h h' [x0] ∧ Fld Z h' x0 "com/example/gleaner/gleaner/harvest/Validators" "lastModified" "Ljava/lang/String;" (.ref x1) ∧ Fld Z h' x0 "com/example/gleaner/gleaner/harvest/Validators" "etag" "Ljava/lang/String;" (.ref x2)) 0 0 := by
  refine OM.of_body (own_EL hw) (ls := #[.val (.ref x0), .val (.ref x1), .val (.ref x2)]) (plainFor_of_name pn_4) (fun m => by first | (simp [entryFrame, mkF, argsToLocals, Value.category]; done) | rfl) ?_
  intro p e s m below meth c C
  refine OG.ow (OG.aloadN C d8_0 rfl rfl (pc' := 1) rfl) ?_
  refine OG.ow (OG.init C (w44 hw) (w45 hw) (w47 hw) (w48 hw) rfl (by decide) (b9 hw x0 Z0) allN d8_1 pd_5 rfl (argsL := []) (rest := []) rfl rfl (W := 0) rfl (by decide) (by decide) (pc' := 4) rfl) ?_
  refine OG.ow (OG.aloadN C d8_4 rfl rfl (pc' := 5) rfl) ?_
  refine OG.ow (OG.aloadN C d8_5 rfl rfl (pc' := 6) rfl) ?_
  refine OW.putF C (host := "") (Or.inl (w50 hw)) Via.refl F0 E0 (Or.inr ⟨(w51 hw), rfl, rfl⟩) (w39 hw) (ty := (.object "java/lang/String")) (by decide) rfl rfl g0 (fun _ A _ => Safe.exa A E0 (by decide) (by decide)) d8_6 (pc' := 9) rfl ?_
  intro h1 Wh1
  have G2 := Fld.same Wh1 F0
  refine OG.ow (OG.aloadN C d8_9 rfl rfl (pc' := 10) rfl) ?_
  refine OG.ow (OG.aloadN C d8_10 rfl rfl (pc' := 11) rfl) ?_
  have G3 := (Fld.other Wh1 F1 (Or.inr (slot_ne (Or.inr (w53 hw)) (Or.inr (w51 hw)) (by decide) (t := (.object "java/lang/String")) (t' := (.object "java/lang/String")) (by decide) (by decide))))
  have G4 := (Exa.wr Wh1 E0)
  refine OW.putF C (host := "") (Or.inl (w52 hw)) Via.refl G3 G4 (Or.inr ⟨(w53 hw), rfl, rfl⟩) (w39 hw) (ty := (.object "java/lang/String")) (by decide) rfl rfl g0 (fun _ A _ => Safe.exa A G4 (by decide) (by decide)) d8_11 (pc' := 14) rfl ?_
  intro h5 Wh5
  have G6 := Fld.same Wh5 G3
  refine OW.retV C d8_14 (by decide) (by decide) ?_
  have G7 := (Fld.other Wh5 G2 (Or.inr (slot_ne (Or.inr (w51 hw)) (Or.inr (w53 hw)) (by decide) (t := (.object "java/lang/String")) (t' := (.object "java/lang/String")) (by decide) (by decide))))
  exact ⟨rfl, (((Keep.refl h [x0]).wr Wh1 (Or.inl (List.mem_of_getElem? (i := 0) rfl))).wr Wh5 (Or.inl (List.mem_of_getElem? (i := 0) rfl))), G7, G6⟩
theorem d10_0 : decode prog_14_method_4_code 0 = .ok (.aload_n 0, 1) := by decide +kernel
theorem d10_1 : decode prog_14_method_4_code 1 = .ok (.getfield 7, 3) := by decide +kernel
theorem d10_4 : decode prog_14_method_4_code 4 = .ok (.invokevirtual 47, 3) := by decide +kernel
theorem d10_7 : decode prog_14_method_4_code 7 = .ok (.ifCond .eq 17, 3) := by decide +kernel
theorem d10_10 : decode prog_14_method_4_code 10 = .ok (.aload_n 0, 1) := by decide +kernel
theorem d10_11 : decode prog_14_method_4_code 11 = .ok (.getfield 13, 3) := by decide +kernel
theorem d10_14 : decode prog_14_method_4_code 14 = .ok (.invokevirtual 47, 3) := by decide +kernel
theorem d10_17 : decode prog_14_method_4_code 17 = .ok (.ifCond .eq 7, 3) := by decide +kernel
theorem d10_20 : decode prog_14_method_4_code 20 = .ok (.iconst 1, 1) := by decide +kernel
theorem d10_21 : decode prog_14_method_4_code 21 = .ok (.goto 4, 3) := by decide +kernel
theorem d10_24 : decode prog_14_method_4_code 24 = .ok (.iconst 0, 1) := by decide +kernel
theorem d10_25 : decode prog_14_method_4_code 25 = .ok (.ireturn, 1) := by decide +kernel
set_option maxRecDepth 65536 in
set_option maxHeartbeats 40000000 in
theorem b10 {l : Launch} {Z : State} {a0 : Array Value} (hw : HW a0 Z) (x0 : Addr) {a1 a2 q1 q2 : Addr} {v1 v2 : List Value} {n0 : Nat} {h : Heap} (Z0 : n0 ≤ h.size) (F0 : Fld Z h x0 "com/example/gleaner/gleaner/harvest/Validators" "lastModified" "Ljava/lang/String;" (.ref a1)) (F1 : Fld Z h x0 "com/example/gleaner/gleaner/harvest/Validators" "etag" "Ljava/lang/String;" (.ref a2)) (X1 : Exa Z h a1 "java/lang/String") (V1 : Fld Z h a1 "java/lang/String" "value" "[B" (.ref q1)) (A1 : OA Z h q1 .byte v1) (X2 : Exa Z h a2 "java/lang/String") (V2 : Fld Z h a2 "java/lang/String" "value" "[B" (.ref q2)) (A2 : OA Z h q2 .byte v2) : OM [] l Z (⟨"com/example/gleaner/gleaner/harvest/Validators", "isEmpty", "()Z"⟩ : MethodName) prog_14_method_4_code 1 (some .boolean) ⟨1, 0, 0, 12⟩ n0 h #[(.ref x0)] (fun v h' => v = some (.int (if v1.length.toInt32 = (0 : Int32) then (if v2.length.toInt32 = (0 : Int32) then (1 : Int32) else (0 : Int32)) else (0 : Int32))) ∧ h' = h) 0 0 := by
  refine OM.of_body (own_EL hw) (ls := #[.val (.ref x0)]) (plainFor_of_name pn_4) (fun m => by first | (simp [entryFrame, mkF, argsToLocals, Value.category]; done) | rfl) ?_
  intro p e s m below meth c C
  refine OG.ow (OG.aloadN C d10_0 rfl rfl (pc' := 1) rfl) ?_
  refine OG.ow (OG.getF C (host := "") (Or.inl (w50 hw)) Via.refl F0 d10_1 (pc' := 4) rfl) ?_
  refine OG.ow (OG.callV C (w59 hw) (w60 hw) (w62 hw) (w61 hw) (w7 hw) (w63 hw) (by decide) X1 (b11 hw a1 Z0 V1 A1) allN d10_4 pd_6 rfl (argsL := []) (rest := []) rfl rfl (W := 0) rfl (by decide) (by decide) (pc' := 7) rfl) ?_
  refine OG.ow (OG.ite (α := Int32) (P := v1.length.toInt32 = (0 : Int32)) (f := fun v => (mkF m 25 #[.val (.ref x0)] [(.int v)])) (x := (if v2.length.toInt32 = (0 : Int32) then (1 : Int32) else (0 : Int32))) (y := (0 : Int32)) (fun hc => ?_) (fun hc => ?_)) ?_
  · refine OG.trans (OG.ifNo C d10_7 (by rw [if_pos hc]; rfl) (pc' := 10) rfl) ?_
    refine OG.trans (OG.aloadN C d10_10 rfl rfl (pc' := 11) rfl) ?_
    refine OG.trans (OG.getF C (host := "") (Or.inl (w52 hw)) Via.refl F1 d10_11 (pc' := 14) rfl) ?_
    refine OG.trans (OG.callV C (w59 hw) (w60 hw) (w62 hw) (w61 hw) (w7 hw) (w63 hw) (by decide) X2 (b11 hw a2 Z0 V2 A2) allN d10_14 pd_6 rfl (argsL := []) (rest := []) rfl rfl (W := 0) rfl (by decide) (by decide) (pc' := 17) rfl) ?_
    refine OG.trans (OG.ite (α := Int32) (P := v2.length.toInt32 = (0 : Int32)) (f := fun v => (mkF m 25 #[.val (.ref x0)] [(.int v)])) (x := (1 : Int32)) (y := (0 : Int32)) (fun hc => ?_) (fun hc => ?_)) ?_
    · refine OG.trans (OG.ifNo C d10_17 (by rw [if_pos hc]; rfl) (pc' := 20) rfl) ?_
      refine OG.trans (OG.iconst C d10_20 (z := (1 : Int32)) rfl (pc' := 21) rfl) ?_
      refine OG.trans (OG.goto C d10_21 (by decide) (pc' := 25) (by decide)) ?_
      exact OG.refl
    · refine OG.trans (OG.ifYes C d10_17 (by rw [if_neg hc]; rfl) (by decide) (pc' := 24) (by decide)) ?_
      refine OG.trans (OG.iconst C d10_24 (z := (0 : Int32)) rfl (pc' := 25) rfl) ?_
      exact OG.refl
    exact OG.refl
  · refine OG.trans (OG.ifYes C d10_7 (by rw [if_neg hc]; rfl) (by decide) (pc' := 24) (by decide)) ?_
    refine OG.trans (OG.iconst C d10_24 (z := (0 : Int32)) rfl (pc' := 25) rfl) ?_
    exact OG.refl
  refine OW.retN (t := .boolean) C (by simp) d10_25 (by decide) (by decide) ?_
  refine ⟨congrArg (fun z => some (Value.int z)) ?_, rfl⟩
  by_cases q1 : v1.length.toInt32 = (0 : Int32) <;> by_cases q2 : v2.length.toInt32 = (0 : Int32) <;> simp only [q1, q2, if_true, if_false] <;> first | decide | (simp_all; done)
theorem own_fin {p q : Prop} [Decidable p] [Decidable q] {P Q : Prop} [Decidable P] [Decidable Q] (h1 : p ↔ P) (h2 : q ↔ Q) : (if p then (if q then (1 : Int32) else (0 : Int32)) else (0 : Int32)) = (if P then (if Q then (1 : Int32) else (0 : Int32)) else (0 : Int32)) := by
  by_cases a : p <;> by_cases b : q <;> simp [a, b, ← h1, ← h2]
set_option maxRecDepth 65536 in
set_option maxHeartbeats 40000000 in
theorem b0 {l : Launch} {Z : State} {a0 : Array Value} (hw : HW a0 Z) (x0 : Int32) (x1 : Int32) (x2 : Int32) (x3 : Int32) {cs : Int32} {n0 : Nat} {h : Heap} (Z0 : n0 ≤ h.size) (S_cs : Sta Z h "java/lang/String" "COMPACT_STRINGS" "Z" (.int cs)) (hcs : ¬ cs = (0 : Int32)) : OM [] l Z x code maxLocals ret room_1 n0 h #[(.int x0), (.int x1), (.int x2), (.int x3)] (fun v h' => v = some (.int 1)) 13 26 := by
  refine OM.of_body (own_EL hw) (ls := #[.val (.int x0), .val (.int x1), .val (.int x2), .val (.int x3), .unset, .unset, .unset, .unset, .unset, .unset]) (plainFor_of_name pn_2) (fun m => by first | (simp [entryFrame, mkF, argsToLocals, Value.category, maxLocals]; done) | rfl) ?_
  intro p e s m below meth c C
  refine OG.ow (OG.iloadN C at_0 rfl (pc' := 1) rfl) ?_
  refine OG.ow (OG.ldcI C (w0 hw) at_1 (pc' := 3) rfl) ?_
  refine OG.ow (OG.iand C at_3 (pc' := 4) rfl) ?_
  refine OG.ow (OG.iconst C at_4 (z := (3 : Int32)) rfl (pc' := 5) rfl) ?_
  refine OG.ow (OG.irem C at_5 (by decide) (pc' := 6) rfl) ?_
  refine OG.ow (OG.istore C at_6 (ls' := #[.val (.int x0), .val (.int x1), .val (.int x2), .val (.int x3), .val (.int ((x0 &&& (2147483647 : Int32)) % (3 : Int32))), .unset, .unset, .unset, .unset, .unset]) rfl (pc' := 8) rfl) ?_
  refine OG.ow (OG.iloadN C at_8 rfl (pc' := 9) rfl) ?_
  refine OG.ow (OG.ldcI C (w0 hw) at_9 (pc' := 11) rfl) ?_
  refine OG.ow (OG.iand C at_11 (pc' := 12) rfl) ?_
  refine OG.ow (OG.iconst C at_12 (z := (3 : Int32)) rfl (pc' := 13) rfl) ?_
  refine OG.ow (OG.irem C at_13 (by decide) (pc' := 14) rfl) ?_
  refine OG.ow (OG.istore C at_14 (ls' := #[.val (.int x0), .val (.int x1), .val (.int x2), .val (.int x3), .val (.int ((x0 &&& (2147483647 : Int32)) % (3 : Int32))), .val (.int ((x2 &&& (2147483647 : Int32)) % (3 : Int32))), .unset, .unset, .unset, .unset]) rfl (pc' := 16) rfl) ?_
  generalize hp0 : ((x0 &&& (2147483647 : Int32)) % (3 : Int32)) = p0
  generalize hp1 : ((x2 &&& (2147483647 : Int32)) % (3 : Int32)) = p1
  refine OG.ow (OG.iload C at_16 rfl (pc' := 18) rfl) ?_
  refine OG.ow (OG.iloadN C at_18 rfl (pc' := 19) rfl) ?_
  refine OW.callS C (w1 hw) (w2 hw) (w3 hw) (w4 hw) (by decide) (b1 hw p0 x1 Z0 S_cs hcs) allN at_19 pd_7 rfl (argsL := [(.int p0), (.int x1)]) (rest := []) rfl rfl (W := 0) rfl (by decide) (by decide) (by decide) (by decide) (pc' := 22) rfl ?_
  intro vh1 h1 qh1
  obtain ⟨a2, rfl, Kh1, Ea2, q3, vq3, Va2, Aq3, Ia2⟩ := qh1
  refine OG.ow (OG.astore C at_22 rfl (ls' := #[.val (.int x0), .val (.int x1), .val (.int x2), .val (.int x3), .val (.int p0), .val (.int p1), .val (.ref a2), .unset, .unset, .unset]) rfl (pc' := 24) rfl) ?_
  refine OG.ow (OG.iload C at_24 rfl (pc' := 26) rfl) ?_
  refine OG.ow (OG.iloadN C at_26 rfl (pc' := 27) rfl) ?_
  have G4 := (Sta.kp S_cs Kh1 all0)
  refine OW.callS C (w1 hw) (w2 hw) (w3 hw) (w4 hw) (by decide) (b1 hw p1 x3 (Nat.le_trans Z0 Kh1.1) G4 hcs) allN at_27 pd_7 rfl (argsL := [(.int p1), (.int x3)]) (rest := []) rfl rfl (W := 0) rfl (by decide) (by decide) (by decide) (by decide) (pc' := 30) rfl ?_
  intro vh5 h5 qh5
  obtain ⟨a6, rfl, Kh5, Ea6, q7, vq7, Va6, Aq7, Ia6⟩ := qh5
  refine OG.ow (OG.astore C at_30 rfl (ls' := #[.val (.int x0), .val (.int x1), .val (.int x2), .val (.int x3), .val (.int p0), .val (.int p1), .val (.ref a2), .val (.ref a6), .unset, .unset]) rfl (pc' := 32) rfl) ?_
  refine OW.newO C (w38 hw) (w39 hw) (w40 hw) at_32 (by decide) (by decide) (pc' := 35) rfl ?_
  intro a8 h9 ga8 Eh9 Aa8 Da8
  refine OG.ow (OG.dup C at_35 rfl (pc' := 36) rfl) ?_
  refine OG.ow (OG.aload C at_36 rfl rfl (pc' := 38) rfl) ?_
  refine OG.ow (OG.aload C at_38 rfl rfl (pc' := 40) rfl) ?_
  refine OW.init C (w41 hw) (w42 hw) (w40 hw) (w43 hw) rfl (by decide) (b8 hw a8 a2 a6 (Nat.le_trans (Nat.le_trans (Nat.le_trans Z0 Kh1.1) Kh5.1) Eh9.1) (Nat.le_trans (Nat.le_trans (Nat.le_trans Z0 Kh1.1) Kh5.1) (Nat.le_of_eq ga8)) Aa8 (show Fld Z h9 a8 "com/example/gleaner/gleaner/harvest/Validators" "lastModified" "Ljava/lang/String;" .null from Da8 (Or.inr (w51 hw)) (ty := (.object "java/lang/String")) (by decide)) (show Fld Z h9 a8 "com/example/gleaner/gleaner/harvest/Validators" "etag" "Ljava/lang/String;" .null from Da8 (Or.inr (w53 hw)) (ty := (.object "java/lang/String")) (by decide))) allN at_40 pd_8 rfl (argsL := [(.ref a2), (.ref a6)]) (rest := [(.ref a8)]) rfl rfl (W := 1) rfl (by decide) (by decide) (by decide) (by decide) (pc' := 43) rfl ?_
  intro vh10 h10 qh10
  obtain ⟨rfl, Kh10, Lh10, Th10⟩ := qh10
  refine OG.ow (OG.astore C at_43 rfl (ls' := #[.val (.int x0), .val (.int x1), .val (.int x2), .val (.int x3), .val (.int p0), .val (.int p1), .val (.ref a2), .val (.ref a6), .val (.ref a8), .unset]) rfl (pc' := 45) rfl) ?_
  refine OG.ow (OG.iload C at_45 rfl (pc' := 47) rfl) ?_
  refine OG.ow (OG.ite (α := Int32) (P := p0 = (0 : Int32)) (f := fun v => (mkF m 60 #[.val (.int x0), .val (.int x1), .val (.int x2), .val (.int x3), .val (.int p0), .val (.int p1), .val (.ref a2), .val (.ref a6), .val (.ref a8), .unset] [(.int v)])) (x := (if p1 = (0 : Int32) then (1 : Int32) else (0 : Int32))) (y := (0 : Int32)) (fun hc => ?_) (fun hc => ?_)) ?_
  · refine OG.trans (OG.ifNo C at_47 ((if0 _ _).trans (teq hc).2) (pc' := 50) rfl) ?_
    refine OG.trans (OG.iload C at_50 rfl (pc' := 52) rfl) ?_
    refine OG.trans (OG.ite (α := Int32) (P := p1 = (0 : Int32)) (f := fun v => (mkF m 60 #[.val (.int x0), .val (.int x1), .val (.int x2), .val (.int x3), .val (.int p0), .val (.int p1), .val (.ref a2), .val (.ref a6), .val (.ref a8), .unset] [(.int v)])) (x := (1 : Int32)) (y := (0 : Int32)) (fun hc => ?_) (fun hc => ?_)) ?_
    · refine OG.trans (OG.ifNo C at_52 ((if0 _ _).trans (teq hc).2) (pc' := 55) rfl) ?_
      refine OG.trans (OG.iconst C at_55 (z := (1 : Int32)) rfl (pc' := 56) rfl) ?_
      refine OG.trans (OG.goto C at_56 (by decide) (pc' := 60) (by decide)) ?_
      exact OG.refl
    · refine OG.trans (OG.ifYes C at_52 ((if0 _ _).trans (feq hc).2) (by decide) (pc' := 59) (by decide)) ?_
      refine OG.trans (OG.iconst C at_59 (z := (0 : Int32)) rfl (pc' := 60) rfl) ?_
      exact OG.refl
    exact OG.refl
  · refine OG.trans (OG.ifYes C at_47 ((if0 _ _).trans (feq hc).2) (by decide) (pc' := 59) (by decide)) ?_
    refine OG.trans (OG.iconst C at_59 (z := (0 : Int32)) rfl (pc' := 60) rfl) ?_
    exact OG.refl
  refine OG.ow (OG.istore C at_60 (ls' := #[.val (.int x0), .val (.int x1), .val (.int x2), .val (.int x3), .val (.int p0), .val (.int p1), .val (.ref a2), .val (.ref a6), .val (.ref a8), .val (.int (if p0 = (0 : Int32) then (if p1 = (0 : Int32) then (1 : Int32) else (0 : Int32)) else (0 : Int32)))]) rfl (pc' := 62) rfl) ?_
  refine OG.ow (OG.aload C at_62 rfl rfl (pc' := 64) rfl) ?_
  have G11 := ((Exa.ext Eh9 (Ea2.keep Kh5)).keep Kh10)
  have G12 := ((Fld.ext Eh9 (Va2.keep Kh5 nin0)).keep Kh10 (ninS (Nat.ne_of_lt (Nat.lt_of_lt_of_le (Nat.lt_of_lt_of_le (Ea2).lt (Nat.le_trans (Nat.le_refl _) Kh5.1)) (Nat.le_of_eq ga8))) nin0))
  have G13 := (((Aq3.keep Kh5 nin0).ext Eh9).keep Kh10 (ninS (Nat.ne_of_lt (Nat.lt_of_lt_of_le (Nat.lt_of_lt_of_le (Aq3).lt (Nat.le_trans (Nat.le_refl _) Kh5.1)) (Nat.le_of_eq ga8))) nin0))
  have G14 := ((Exa.ext Eh9 Ea6).keep Kh10)
  have G15 := ((Fld.ext Eh9 Va6).keep Kh10 (ninS (Nat.ne_of_lt (Nat.lt_of_lt_of_le (Nat.lt_of_lt_of_le (Ea6).lt (Nat.le_refl _)) (Nat.le_of_eq ga8))) nin0))
  have G16 := ((Aq7.ext Eh9).keep Kh10 (ninS (Nat.ne_of_lt (Nat.lt_of_lt_of_le (Nat.lt_of_lt_of_le (Aq7).lt (Nat.le_refl _)) (Nat.le_of_eq ga8))) nin0))
  have G17 := (Aa8.keep Kh10)
  refine OG.ow (OG.callV C (w54 hw) (w55 hw) (w57 hw) (w56 hw) (w40 hw) (w58 hw) (by decide) G17 (b10 hw a8 (Nat.le_trans (Nat.le_trans (Nat.le_trans (Nat.le_trans Z0 Kh1.1) Kh5.1) Eh9.1) Kh10.1) Lh10 Th10 G11 G12 G13 G14 G15 G16) allN at_64 pd_6 rfl (argsL := []) (rest := []) rfl rfl (W := 0) rfl (by decide) (by decide) (pc' := 67) rfl) ?_
  refine OG.ow (OG.iload C at_67 rfl (pc' := 69) rfl) ?_
  refine OG.ow (OG.icmpNo C at_69 (teq (own_fin Ia2 Ia6)).2 (pc' := 72) rfl) ?_
  refine OG.ow (OG.iconst C at_72 (z := (1 : Int32)) rfl (pc' := 73) rfl) ?_
  refine OG.ow (OG.goto C at_73 (by decide) (pc' := 77) (by decide)) ?_
  refine OW.retN (t := .boolean) C (by simp) at_77 (by decide) (by decide) ?_
  rfl
set_option maxRecDepth 65536 in
set_option maxHeartbeats 40000000 in
theorem comes_1 {Post : Tables → Env → Array Value → State → Outcome → State → Prop} (hpost : ∀ tb e args s v u, (limb_1_1.after args s (.returned v) u = true ∧ limb_1_2.after args s (.returned v) u = true ∧ True) → ReturnedEndW s (.returned v) u (Jvm.fieldLocs frame_1_writes args s ++ Jvm.arrayLocs frame_1_arrays args s ++ Jvm.staticLocs frame_1_statics s) 24 1152 → Post tb e args s (.returned v) u) :
    ArmFor flags0 classFile x code maxLocals ret World_1 tables_1 room_1 Calls_1 rest_1 Pre_1 Post := by
  intro l hfl _ _ p e ha hc hk s m args below hf hA hF happ hP
  obtain ⟨hcalls, hrest, hpre⟩ := hP
  obtain ⟨-, -, -, hnamed, -, -, -, hat⟩ := (Spec.applies_iff hf).mp happ
  obtain ⟨hg, hn⟩ := and_e (Cond.before_iff.mp (show (Jvm.Cond.and given_1 narrow_1).before args s = true from hpre))
  obtain ⟨h1, q0⟩ := and_e hg
  obtain ⟨k0, q1⟩ := and_e q0
  obtain ⟨k1, q2⟩ := and_e q1
  obtain ⟨k2, q3⟩ := and_e q2
  obtain ⟨u0, u1, u2, u3, rfl⟩ : ∃ u0 u1 u2 u3 : Value, args = #[u0, u1, u2, u3] := by
    have hs : args.size = 4 := by simpa [Cond.value, given_1] using h1
    obtain ⟨L⟩ := args
    match L, hs with
    | [u0, u1, u2, u3], _ => exact ⟨u0, u1, u2, u3, rfl⟩
  have hw : HW #[u0, u1, u2, u3] s := fun d (hd : d ∈ tables_1) => atoms_spec (ws := Jvm.Cond.code x code maxLocals ret :: tables_1) hat d (List.mem_cons_of_mem _ hd)
  have hfit : Fit s := fun {y c} hc i hi => by
    obtain ⟨ha, rfl⟩ := Array.getElem?_eq_some_iff.mp hc
    have q := List.all_eq_true.mp ((Array.all_eq_true_iff_forall_mem.mp hF) _ (Array.getElem_mem ha)) i (List.mem_range.mpr hi)
    simpa [Array.getElem?_eq_getElem hi] using q
  obtain ⟨i0, e0⟩ := is_v k0
  obtain rfl : u0 = (.int i0) := Option.some.inj e0
  obtain ⟨i1, e1⟩ := is_v k1
  obtain rfl : u1 = (.int i1) := Option.some.inj e1
  obtain ⟨i2, e2⟩ := is_v k2
  obtain rfl : u2 = (.int i2) := Option.some.inj e2
  obtain ⟨i3, e3⟩ := is_v q3
  obtain rfl : u3 = (.int i3) := Option.some.inj e3
  obtain ⟨hsets, hown0⟩ := atoms_of _ (rest_1_c_eq ▸ (show rest_1_c.before _ s = true from hrest))
  have ncs := not_v (Cond.before_iff.mp (hsets _ (List.mem_of_getElem? (i := 2) rfl)))
  obtain ⟨cs, ecs⟩ := is_v (Cond.before_iff.mp (hsets _ (List.mem_of_getElem? (i := 1) rfl)))
  have Scs : Sta s s.heap "java/lang/String" "COMPACT_STRINGS" "Z" (.int cs) := Sta.start ecs (Or.inl (hsets _ (List.mem_of_getElem? (i := 0) rfl)))
  have hcs : ¬ (cs = (0 : Int32)) := gotF (Cond.eq_ints ecs (Term.int_eval (0))) ncs
  have ncw : Jvm.Lit.compactW.before #[.int i0, .int i1, .int i2, .int i3] s = true := hsets _ (List.mem_of_getElem? (i := 2) rfl)
  have HCH : CHv s EL0 s.vm s.heap := CHv.start (own_EL hw) (fun p hp => hcalls.1 p hp) ncw (w20 hw) (w6 hw)
  obtain ⟨n, o, h1, h2, h3, _, L, rfl, ⟨hv, N⟩, -, hq⟩ := b0 (l := l) hw i0 i1 i2 i3 (Nat.le_refl _) Scs hcs (n0 := s.heap.size) (h := s.heap) tables_1 p e ha hc hk s m _ below hf ((Spec.applies_iff_loose hf).mp happ).1 ⟨rfl, State.Warmed39.refl s, rfl, HCH, fun x q => absurd q List.not_mem_nil⟩ trivial
  subst hv
  refine ⟨n, _, h1, h2, h3, hpost _ _ _ _ _ _ ⟨Cond.after_iff.mpr rfl, Cond.after_iff.mpr (eq_i res_at (Term.int_eval (1)) rfl), trivial⟩ ⟨hq.1, hq.2.1, hq.2.2.1, (hq.2.2.2.sift fun y hy => Or.inr (N y hy)).mono (by decide) (by decide)⟩⟩
theorem main_1_1 : Claimed_1_1 := comes_1 fun _ _ _ _ _ _ h hF => ⟨h.1, hF⟩
theorem main_1_2 : Claimed_1_2 := comes_1 fun _ _ _ _ _ _ h hF => ⟨h.2.1, hF⟩
end Jvm.Pilot.@@N@@
namespace Jvm.Pilot.@@N@@
open Jvm Jvm.ClassFile Sem Op Lib Jvm.Free Jvm.Stand Jvm.Pilot.@@N@@.Jvm.D
/-! MADE BY PROGRAM (witnessworld.py) out of the Statement's table words and the real class files: 21 classes; the members and pool entries that the words name. The judged class is class 1, her method 1. -/
namespace start1
open Jvm.ClassFile
def u (s : String) : CpInfo := .utf8 (stringToUtf16 s)
/-- a pool by its gaps: so many unusable entries, then the entry; so many at the end -/
def gap : Nat → List CpInfo → List CpInfo
  | 0, r => r
  | n + 1, r => .unusable :: gap n r
def poolList (es : List (Nat × CpInfo)) (last : Nat) : List CpInfo := es.foldr (fun e r => gap e.1 (e.2 :: r)) (gap last [])
def pool (es : List (Nat × CpInfo)) (last : Nat) : Array CpInfo := ⟨poolList es last⟩
def fileOf (pool : Array CpInfo) (this : Nat) (attrs : Array Attribute := #[]) (ms : Array MethodInfo := #[]) (fl : Nat := 33) (sup : Nat := 0) (ifs : Array Nat := #[]) (fds : Array FieldInfo := #[]) : ClassFile where
  minorVersion := 0
  majorVersion := 65
  constantPool := pool
  accessFlags := fl
  thisClass := this
  superClass := sup
  interfaces := ifs
  fields := fds
  methods := ms
  attributes := attrs
def plain (name : String) (sup : Option ClassId) : Class where
  name := name
  kind := .ordinary
  loader := none
  accessFlags := 33
  super := sup
  interfaces := #[]
  cf := none
  fields := #[]
  methods := #[]
  instanceTypes := #[]
  staticTypes := #[]
  resolved := #[]
  callSites := []
  init := .initialized
  statics := none
  mirror := none

def pool0 : Array CpInfo := pool [(5, u "<init>"), (0, u "()V"), (1, .class_ 10), (1, u "java/lang/Object")] 113

def k0c0 : Code := { maxStack := 0, maxLocals := 1, code := object_method_1_code, exceptionTable := #[], attributes := #[] }
def k0m0 : Method := { name := "<init>", desc := "()V", sig := { parameters := [], returnType := none }, accessFlags := 1, code := some k0c0 }
/-- java/lang/Object -/
def k0 : Class := { plain "java/lang/Object" none with
  accessFlags := 33
  interfaces := #[]
  cf := some (fileOf pool0 8 #[] #[{ accessFlags := 1, nameIndex := 5, descriptorIndex := 6, attributes := #[] }] 33 0 #[] #[])
  fields := #[]
  methods := #[k0m0]
  instanceTypes := #[]
  staticTypes := #[]
  resolved := Array.replicate 124 none
  statics := none }

def pool1 : Array CpInfo := pool [(2, .class_ 4), (1, u "java/lang/Object"), (0, u "<init>"), (0, u "()V"), (0, .integer 2147483647), (0, .methodref 9 10), (0, .class_ 11), (0, .nameAndType 12 13), (0, u "com/example/gleaner/gleaner/harvest/ValidatorsIsEmptyPinLaw"), (0, u "make"), (0, u "(II)Ljava/lang/String;"), (0, .class_ 15), (0, u "com/example/gleaner/gleaner/harvest/Validators"), (0, .methodref 14 17), (0, .nameAndType 5 18), (0, u "(Ljava/lang/String;Ljava/lang/String;)V"), (0, .methodref 14 20), (0, .nameAndType 21 22), (0, u "isEmpty"), (0, u "()Z"), (0, .class_ 24), (0, u "java/lang/String"), (0, .methodref 23 26), (0, .nameAndType 5 27), (0, u "([C)V"), (2, u "law"), (0, u "(IIII)Z")] 3

def k1m0 : Method := { name := "<init>", desc := "()V", sig := { parameters := [], returnType := none }, accessFlags := 1, code := none }
def k1c1 : Code := { maxStack := 4, maxLocals := 10, code := code, exceptionTable := #[], attributes := #[] }
def k1m1 : Method := { name := "law", desc := "(IIII)Z", sig := { parameters := [.int, .int, .int, .int], returnType := some .boolean }, accessFlags := 9, code := some k1c1 }
def k1c2 : Code := { maxStack := 6, maxLocals := 4, code := method_3_code, exceptionTable := #[], attributes := #[] }
def k1m2 : Method := { name := "make", desc := "(II)Ljava/lang/String;", sig := { parameters := [.int, .int], returnType := some (.object "java/lang/String") }, accessFlags := 10, code := some k1c2 }
/-- com/example/gleaner/gleaner/harvest/ValidatorsIsEmptyPinLaw -/
def k1 : Class := { plain "com/example/gleaner/gleaner/harvest/ValidatorsIsEmptyPinLaw" (some 0) with
  accessFlags := 49
  interfaces := #[]
  cf := some (fileOf pool1 9 #[] #[{ accessFlags := 1, nameIndex := 5, descriptorIndex := 6, attributes := #[] }, { accessFlags := 9, nameIndex := 30, descriptorIndex := 31, attributes := #[] }, { accessFlags := 10, nameIndex := 12, descriptorIndex := 13, attributes := #[] }] 49 2 #[] #[])
  fields := #[]
  methods := #[k1m0, k1m1, k1m2]
  instanceTypes := #[]
  staticTypes := #[]
  resolved := Array.replicate 35 none
  statics := none }

def pool2 : Array CpInfo := pool [(1, .class_ 2), (0, u "java/io/Serializable"), (0, .class_ 4), (0, u "java/lang/Object")] 2

/-- java/io/Serializable -/
def k2 : Class := { plain "java/io/Serializable" (some 0) with
  accessFlags := 1537
  interfaces := #[]
  cf := some (fileOf pool2 1 #[] #[] 1537 3 #[] #[])
  fields := #[]
  methods := #[]
  instanceTypes := #[]
  staticTypes := #[]
  resolved := Array.replicate 7 none
  statics := none }

def pool3 : Array CpInfo := pool [(1, .class_ 2), (0, u "java/lang/Comparable"), (0, .class_ 4), (0, u "java/lang/Object")] 7

/-- java/lang/Comparable -/
def k3 : Class := { plain "java/lang/Comparable" (some 0) with
  accessFlags := 1537
  interfaces := #[]
  cf := some (fileOf pool3 1 #[] #[] 1537 3 #[] #[])
  fields := #[]
  methods := #[]
  instanceTypes := #[]
  staticTypes := #[]
  resolved := Array.replicate 12 none
  statics := none }

def pool4 : Array CpInfo := pool [(2, .class_ 4), (1, u "java/lang/CharSequence"), (42, .class_ 48), (0, u "java/lang/CharSequence$1CodePointIterator"), (10, .class_ 60), (0, u "java/lang/CharSequence$1CharIterator"), (5, .class_ 67), (0, u "java/lang/Object")] 63

/-- java/lang/CharSequence -/
def k4 : Class := { plain "java/lang/CharSequence" (some 0) with
  accessFlags := 1537
  interfaces := #[]
  cf := some (fileOf pool4 2 #[.nestMembers #[47, 59]] #[] 1537 66 #[] #[])
  fields := #[]
  methods := #[]
  instanceTypes := #[]
  staticTypes := #[]
  resolved := Array.replicate 131 none
  statics := none }

def pool5 : Array CpInfo := pool [(1, .class_ 2), (0, u "java/lang/constant/Constable"), (0, .class_ 4), (0, u "java/lang/Object")] 6

/-- java/lang/constant/Constable -/
def k5 : Class := { plain "java/lang/constant/Constable" (some 0) with
  accessFlags := 1537
  interfaces := #[]
  cf := some (fileOf pool5 1 #[] #[] 1537 3 #[] #[])
  fields := #[]
  methods := #[]
  instanceTypes := #[]
  staticTypes := #[]
  resolved := Array.replicate 11 none
  statics := none }

def pool6 : Array CpInfo := pool [(1, .class_ 2), (0, u "java/lang/constant/ConstantDesc"), (0, .class_ 4), (0, u "java/lang/Object")] 32

/-- java/lang/constant/ConstantDesc -/
def k6 : Class := { plain "java/lang/constant/ConstantDesc" (some 0) with
  accessFlags := 1537
  interfaces := #[]
  cf := some (fileOf pool6 1 #[] #[] 1537 3 #[] #[])
  fields := #[]
  methods := #[]
  instanceTypes := #[]
  staticTypes := #[]
  resolved := Array.replicate 37 none
  statics := none }

def pool7 : Array CpInfo := pool [(1, .methodref 2 3), (0, .class_ 4), (0, .nameAndType 5 6), (0, u "java/lang/Object"), (0, u "<init>"), (0, u "()V"), (0, .string 8), (0, u ""), (0, .fieldref 10 11), (0, .class_ 12), (0, .nameAndType 13 14), (0, u "java/lang/String"), (0, u "value"), (0, u "[B"), (0, .fieldref 10 16), (0, .nameAndType 17 18), (0, u "coder"), (0, u "B"), (2, u "hash"), (0, u "I"), (2, u "hashIsZero"), (0, u "Z"), (0, .methodref 10 28), (0, .nameAndType 5 29), (0, u "([CIILjava/lang/Void;)V"), (8, .fieldref 10 39), (0, .nameAndType 40 26), (0, u "COMPACT_STRINGS"), (1, .class_ 44), (1, u "java/lang/StringUTF16"), (0, u "compress"), (1, .methodref 42 48), (0, .nameAndType 49 50), (0, u "coderFromArrayLen"), (0, u "([BI)B"), (91, u "()Z"), (34, .methodref 42 178), (0, .nameAndType 45 179), (0, u "([CII)[B"), (395, .class_ 576), (0, u "java/lang/CharSequence"), (22, u "CASE_INSENSITIVE_ORDER"), (0, u "Ljava/util/Comparator;"), (91, u "isEmpty"), (317, u "([C)V"), (90, u "serialPersistentFields"), (0, u "[Ljava/io/ObjectStreamField;"), (0, .class_ 1104), (0, u "java/lang/String$CaseInsensitiveComparator"), (1, .class_ 1107), (0, u "java/io/Serializable"), (0, .class_ 1109), (0, u "java/lang/Comparable"), (0, .class_ 1111), (0, u "java/lang/constant/Constable"), (0, .class_ 1113), (0, u "java/lang/constant/ConstantDesc"), (2, u "serialVersionUID"), (0, u "J"), (3, u "REPL"), (0, u "C"), (2, u "LATIN1"), (1, u "UTF16")] 323

def k7m0 : Method := { name := "<init>", desc := "()V", sig := { parameters := [], returnType := none }, accessFlags := 1, code := none }
def k7c1 : Code := { maxStack := 5, maxLocals := 2, code := jdk_42_method_3_code, exceptionTable := #[], attributes := #[] }
def k7m1 : Method := { name := "<init>", desc := "([C)V", sig := { parameters := [(.array .char)], returnType := none }, accessFlags := 1, code := some k7c1 }
def k7c2 : Code := { maxStack := 1, maxLocals := 1, code := jdk_42_method_55_code, exceptionTable := #[], attributes := #[] }
def k7m2 : Method := { name := "isEmpty", desc := "()Z", sig := { parameters := [], returnType := some .boolean }, accessFlags := 1, code := some k7c2 }
def k7c3 : Code := { maxStack := 4, maxLocals := 6, code := jdk_42_method_149_code, exceptionTable := #[], attributes := #[] }
def k7m3 : Method := { name := "<init>", desc := "([CIILjava/lang/Void;)V", sig := { parameters := [(.array .char), .int, .int, (.object "java/lang/Void")], returnType := none }, accessFlags := 2, code := some k7c3 }
/-- java/lang/String -/
def k7 : Class := { plain "java/lang/String" (some 0) with
  accessFlags := 49
  interfaces := #[2, 3, 4, 5, 6]
  cf := some (fileOf pool7 10 #[.nestMembers #[1103]] #[{ accessFlags := 1, nameIndex := 5, descriptorIndex := 6, attributes := #[] }, { accessFlags := 1, nameIndex := 5, descriptorIndex := 1010, attributes := #[] }, { accessFlags := 1, nameIndex := 692, descriptorIndex := 142, attributes := #[] }, { accessFlags := 2, nameIndex := 5, descriptorIndex := 29, attributes := #[] }] 49 2 #[1106, 1108, 575, 1110, 1112] #[{ accessFlags := 18, nameIndex := 13, descriptorIndex := 14, attributes := #[] }, { accessFlags := 18, nameIndex := 17, descriptorIndex := 18, attributes := #[] }, { accessFlags := 2, nameIndex := 21, descriptorIndex := 22, attributes := #[] }, { accessFlags := 2, nameIndex := 25, descriptorIndex := 26, attributes := #[] }, { accessFlags := 26, nameIndex := 1116, descriptorIndex := 1117, attributes := #[] }, { accessFlags := 24, nameIndex := 40, descriptorIndex := 26, attributes := #[] }, { accessFlags := 26, nameIndex := 1101, descriptorIndex := 1102, attributes := #[] }, { accessFlags := 26, nameIndex := 1121, descriptorIndex := 1122, attributes := #[] }, { accessFlags := 25, nameIndex := 599, descriptorIndex := 600, attributes := #[] }, { accessFlags := 24, nameIndex := 1125, descriptorIndex := 18, attributes := #[] }, { accessFlags := 24, nameIndex := 1127, descriptorIndex := 18, attributes := #[] }])
  fields := #[{ name := "value", type := (.array .byte), accessFlags := 18, slot := 0, constantValue := 0 }, { name := "coder", type := .byte, accessFlags := 18, slot := 1, constantValue := 0 }, { name := "hash", type := .int, accessFlags := 2, slot := 2, constantValue := 0 }, { name := "hashIsZero", type := .boolean, accessFlags := 2, slot := 3, constantValue := 0 }, { name := "serialVersionUID", type := .long, accessFlags := 26, slot := 0, constantValue := 0 }, { name := "COMPACT_STRINGS", type := .boolean, accessFlags := 24, slot := 1, constantValue := 0 }, { name := "serialPersistentFields", type := (.array (.object "java/io/ObjectStreamField")), accessFlags := 26, slot := 2, constantValue := 0 }, { name := "REPL", type := .char, accessFlags := 26, slot := 3, constantValue := 0 }, { name := "CASE_INSENSITIVE_ORDER", type := (.object "java/util/Comparator"), accessFlags := 25, slot := 4, constantValue := 0 }, { name := "LATIN1", type := .byte, accessFlags := 24, slot := 5, constantValue := 0 }, { name := "UTF16", type := .byte, accessFlags := 24, slot := 6, constantValue := 0 }]
  methods := #[k7m0, k7m1, k7m2, k7m3]
  instanceTypes := #[(.array .byte), .byte, .int, .boolean]
  staticTypes := #[.long, .boolean, (.array (.object "java/io/ObjectStreamField")), .char, (.object "java/util/Comparator"), .byte, .byte]
  resolved := Array.replicate 1451 none
  statics := some 0 }

def pool8 : Array CpInfo := pool [(6, .class_ 8), (1, u "java/lang/Object"), (0, u "<init>"), (0, u "()V"), (1, .class_ 14), (1, u "java/lang/StringUTF16"), (31, u "$assertionsDisabled"), (0, u "Z"), (13, u "HI_BYTE_SHIFT"), (0, u "I"), (2, u "LO_BYTE_SHIFT"), (49, .methodref 12 116), (0, .nameAndType 117 118), (0, u "compress"), (0, u "([CI[BII)I"), (3, u "([CII)[B"), (138, u "coderFromArrayLen"), (0, u "([BI)B"), (106, .class_ 371), (1, u "java/lang/StringUTF16$LinesSpliterator"), (58, u "MAX_LENGTH"), (196, .class_ 628), (0, u "java/lang/StringUTF16$CodePointsSpliterator"), (0, .class_ 630), (0, u "java/lang/StringUTF16$CharsSpliterator")] 4

def k8m0 : Method := { name := "<init>", desc := "()V", sig := { parameters := [], returnType := none }, accessFlags := 0, code := none }
def k8c1 : Code := { maxStack := 2, maxLocals := 2, code := jdk_52_method_15_code, exceptionTable := #[], attributes := #[] }
def k8m1 : Method := { name := "coderFromArrayLen", desc := "([BI)B", sig := { parameters := [(.array .byte), .int], returnType := some .byte }, accessFlags := 8, code := some k8c1 }
def k8c2 : Code := { maxStack := 5, maxLocals := 6, code := jdk_52_method_16_code, exceptionTable := #[], attributes := #[] }
def k8m2 : Method := { name := "compress", desc := "([CII)[B", sig := { parameters := [(.array .char), .int, .int], returnType := some (.array .byte) }, accessFlags := 9, code := some k8c2 }
def k8c3 : Code := { maxStack := 3, maxLocals := 7, code := jdk_52_method_21_code, exceptionTable := #[], attributes := #[] }
def k8m3 : Method := { name := "compress", desc := "([CI[BII)I", sig := { parameters := [(.array .char), .int, (.array .byte), .int, .int], returnType := some .int }, accessFlags := 9, code := some k8c3 }
/-- java/lang/StringUTF16 -/
def k8 : Class := { plain "java/lang/StringUTF16" (some 0) with
  accessFlags := 48
  interfaces := #[]
  cf := some (fileOf pool8 12 #[.nestMembers #[627, 629, 369]] #[{ accessFlags := 0, nameIndex := 9, descriptorIndex := 10, attributes := #[] }, { accessFlags := 8, nameIndex := 261, descriptorIndex := 262, attributes := #[] }, { accessFlags := 9, nameIndex := 117, descriptorIndex := 122, attributes := #[] }, { accessFlags := 9, nameIndex := 117, descriptorIndex := 118, attributes := #[] }] 48 6 #[] #[{ accessFlags := 26, nameIndex := 61, descriptorIndex := 62, attributes := #[] }, { accessFlags := 26, nameIndex := 65, descriptorIndex := 62, attributes := #[] }, { accessFlags := 24, nameIndex := 430, descriptorIndex := 62, attributes := #[] }, { accessFlags := 4120, nameIndex := 46, descriptorIndex := 47, attributes := #[] }])
  fields := #[{ name := "HI_BYTE_SHIFT", type := .int, accessFlags := 26, slot := 0, constantValue := 0 }, { name := "LO_BYTE_SHIFT", type := .int, accessFlags := 26, slot := 1, constantValue := 0 }, { name := "MAX_LENGTH", type := .int, accessFlags := 24, slot := 2, constantValue := 0 }, { name := "$assertionsDisabled", type := .boolean, accessFlags := 4120, slot := 3, constantValue := 0 }]
  methods := #[k8m0, k8m1, k8m2, k8m3]
  instanceTypes := #[]
  staticTypes := #[.int, .int, .int, .boolean]
  resolved := Array.replicate 635 none
  statics := none }

def pool9 : Array CpInfo := pool [(1, .methodref 2 3), (0, .class_ 4), (0, .nameAndType 5 6), (0, u "java/lang/Object"), (0, u "<init>"), (0, u "()V"), (0, .class_ 8), (0, u "java/lang/Record")] 13

def k9c0 : Code := { maxStack := 1, maxLocals := 1, code := jdk_30_method_1_code, exceptionTable := #[], attributes := #[] }
def k9m0 : Method := { name := "<init>", desc := "()V", sig := { parameters := [], returnType := none }, accessFlags := 4, code := some k9c0 }
/-- java/lang/Record -/
def k9 : Class := { plain "java/lang/Record" (some 0) with
  accessFlags := 1057
  interfaces := #[]
  cf := some (fileOf pool9 7 #[] #[{ accessFlags := 4, nameIndex := 5, descriptorIndex := 6, attributes := #[] }] 1057 2 #[] #[])
  fields := #[]
  methods := #[k9m0]
  instanceTypes := #[]
  staticTypes := #[]
  resolved := Array.replicate 22 none
  statics := none }

def pool10 : Array CpInfo := pool [(1, .methodref 2 3), (0, .class_ 4), (0, .nameAndType 5 6), (0, u "java/lang/Record"), (0, u "<init>"), (0, u "()V"), (0, .fieldref 8 9), (0, .class_ 10), (0, .nameAndType 11 12), (0, u "com/example/gleaner/gleaner/harvest/Validators"), (0, u "lastModified"), (0, u "Ljava/lang/String;"), (0, .fieldref 8 14), (0, .nameAndType 15 12), (0, u "etag"), (16, .class_ 33), (0, u "java/lang/String"), (8, u "(Ljava/lang/String;Ljava/lang/String;)V"), (4, .methodref 32 48), (0, .nameAndType 49 50), (0, u "isEmpty"), (0, u "()Z"), (14, u "NONE"), (0, u "Lcom/example/gleaner/gleaner/harvest/Validators;")] 29

def k10c0 : Code := { maxStack := 2, maxLocals := 3, code := prog_14_method_1_code, exceptionTable := #[], attributes := #[] }
def k10m0 : Method := { name := "<init>", desc := "(Ljava/lang/String;Ljava/lang/String;)V", sig := { parameters := [(.object "java/lang/String"), (.object "java/lang/String")], returnType := none }, accessFlags := 1, code := some k10c0 }
def k10c1 : Code := { maxStack := 1, maxLocals := 1, code := prog_14_method_4_code, exceptionTable := #[], attributes := #[] }
def k10m1 : Method := { name := "isEmpty", desc := "()Z", sig := { parameters := [], returnType := some .boolean }, accessFlags := 1, code := some k10c1 }
/-- com/example/gleaner/gleaner/harvest/Validators -/
def k10 : Class := { plain "com/example/gleaner/gleaner/harvest/Validators" (some 9) with
  accessFlags := 49
  interfaces := #[]
  cf := some (fileOf pool10 8 #[] #[{ accessFlags := 1, nameIndex := 5, descriptorIndex := 42, attributes := #[] }, { accessFlags := 1, nameIndex := 49, descriptorIndex := 50, attributes := #[] }] 49 2 #[] #[{ accessFlags := 18, nameIndex := 11, descriptorIndex := 12, attributes := #[] }, { accessFlags := 18, nameIndex := 15, descriptorIndex := 12, attributes := #[] }, { accessFlags := 25, nameIndex := 65, descriptorIndex := 66, attributes := #[] }])
  fields := #[{ name := "lastModified", type := (.object "java/lang/String"), accessFlags := 18, slot := 0, constantValue := 0 }, { name := "etag", type := (.object "java/lang/String"), accessFlags := 18, slot := 1, constantValue := 0 }, { name := "NONE", type := (.object "com/example/gleaner/gleaner/harvest/Validators"), accessFlags := 25, slot := 0, constantValue := 0 }]
  methods := #[k10m0, k10m1]
  instanceTypes := #[(.object "java/lang/String"), (.object "java/lang/String")]
  staticTypes := #[(.object "com/example/gleaner/gleaner/harvest/Validators")]
  resolved := Array.replicate 96 none
  statics := none }

def pool11 : Array CpInfo := pool [(4, .class_ 6), (1, u "java/lang/Object"), (0, u "<init>"), (0, u "()V"), (5, .class_ 16), (1, u "java/lang/StringLatin1"), (104, u "$assertionsDisabled"), (0, u "Z"), (98, .class_ 223), (1, u "java/lang/StringLatin1$LinesSpliterator"), (166, .class_ 391), (0, u "java/lang/StringLatin1$CharsSpliterator")] 3

def k11m0 : Method := { name := "<init>", desc := "()V", sig := { parameters := [], returnType := none }, accessFlags := 0, code := none }
/-- java/lang/StringLatin1 -/
def k11 : Class := { plain "java/lang/StringLatin1" (some 0) with
  accessFlags := 48
  interfaces := #[]
  cf := some (fileOf pool11 14 #[.nestMembers #[390, 221]] #[{ accessFlags := 0, nameIndex := 7, descriptorIndex := 8, attributes := #[] }] 48 4 #[] #[{ accessFlags := 4120, nameIndex := 121, descriptorIndex := 122, attributes := #[] }])
  fields := #[{ name := "$assertionsDisabled", type := .boolean, accessFlags := 4120, slot := 0, constantValue := 0 }]
  methods := #[k11m0]
  instanceTypes := #[]
  staticTypes := #[.boolean]
  resolved := Array.replicate 395 none
  statics := none }

def pool12 : Array CpInfo := pool [(2, .class_ 4), (1, u "java/lang/Object"), (0, u "<init>"), (0, u "()V"), (17, .class_ 26), (1, u "jdk/internal/util/Preconditions"), (28, .class_ 56), (0, u "jdk/internal/util/Preconditions$4"), (57, .class_ 115), (0, u "jdk/internal/util/Preconditions$1"), (7, u "SIOOBE_FORMATTER"), (0, u "Ljava/util/function/BiFunction;"), (0, .class_ 126), (0, u "jdk/internal/util/Preconditions$2"), (3, u "AIOOBE_FORMATTER"), (0, .class_ 132), (0, u "jdk/internal/util/Preconditions$3"), (3, u "IOOBE_FORMATTER")] 57

def k12m0 : Method := { name := "<init>", desc := "()V", sig := { parameters := [], returnType := none }, accessFlags := 1, code := none }
/-- jdk/internal/util/Preconditions -/
def k12 : Class := { plain "jdk/internal/util/Preconditions" (some 0) with
  accessFlags := 33
  interfaces := #[]
  cf := some (fileOf pool12 24 #[.nestMembers #[55, 131, 125, 114]] #[{ accessFlags := 1, nameIndex := 5, descriptorIndex := 6, attributes := #[] }] 33 2 #[] #[{ accessFlags := 25, nameIndex := 123, descriptorIndex := 124, attributes := #[] }, { accessFlags := 25, nameIndex := 130, descriptorIndex := 124, attributes := #[] }, { accessFlags := 25, nameIndex := 136, descriptorIndex := 124, attributes := #[] }])
  fields := #[{ name := "SIOOBE_FORMATTER", type := (.object "java/util/function/BiFunction"), accessFlags := 25, slot := 0, constantValue := 0 }, { name := "AIOOBE_FORMATTER", type := (.object "java/util/function/BiFunction"), accessFlags := 25, slot := 1, constantValue := 0 }, { name := "IOOBE_FORMATTER", type := (.object "java/util/function/BiFunction"), accessFlags := 25, slot := 2, constantValue := 0 }]
  methods := #[k12m0]
  instanceTypes := #[]
  staticTypes := #[(.object "java/util/function/BiFunction"), (.object "java/util/function/BiFunction"), (.object "java/util/function/BiFunction")]
  resolved := Array.replicate 194 none
  statics := some 1 }

def pool13 : Array CpInfo := pool [(9, u "<init>"), (6, .class_ 18), (1, u "java/lang/Object"), (0, u "()V"), (1, .class_ 23), (1, u "jdk/internal/util/ArraysSupport"), (0, u "LOG2_ARRAY_LONG_INDEX_SCALE"), (0, u "I"), (2, u "U"), (0, u "Ljdk/internal/misc/Unsafe;"), (8, u "BIG_ENDIAN"), (0, u "Z"), (8, u "LOG2_BYTE_BIT_SIZE"), (4, u "LOG2_ARRAY_INT_INDEX_SCALE"), (54, u "JLA"), (0, u "Ljdk/internal/access/JavaLangAccess;"), (11, u "LOG2_ARRAY_BOOLEAN_INDEX_SCALE"), (9, u "LOG2_ARRAY_BYTE_INDEX_SCALE"), (5, u "LOG2_ARRAY_CHAR_INDEX_SCALE"), (5, u "LOG2_ARRAY_SHORT_INDEX_SCALE"), (18, u "LOG2_ARRAY_FLOAT_INDEX_SCALE"), (24, u "LOG2_ARRAY_DOUBLE_INDEX_SCALE"), (89, u "T_BOOLEAN"), (2, u "T_CHAR"), (1, u "T_FLOAT"), (1, u "T_DOUBLE"), (1, u "T_BYTE"), (1, u "T_SHORT"), (1, u "T_INT"), (1, u "T_LONG"), (1, u "SOFT_MAX_ARRAY_LENGTH")] 83

def k13m0 : Method := { name := "<init>", desc := "()V", sig := { parameters := [], returnType := none }, accessFlags := 2, code := none }
/-- jdk/internal/util/ArraysSupport -/
def k13 : Class := { plain "jdk/internal/util/ArraysSupport" (some 0) with
  accessFlags := 33
  interfaces := #[]
  cf := some (fileOf pool13 21 #[] #[{ accessFlags := 2, nameIndex := 9, descriptorIndex := 19, attributes := #[] }] 33 16 #[] #[{ accessFlags := 24, nameIndex := 28, descriptorIndex := 29, attributes := #[] }, { accessFlags := 26, nameIndex := 38, descriptorIndex := 39, attributes := #[] }, { accessFlags := 25, nameIndex := 121, descriptorIndex := 25, attributes := #[] }, { accessFlags := 25, nameIndex := 131, descriptorIndex := 25, attributes := #[] }, { accessFlags := 25, nameIndex := 137, descriptorIndex := 25, attributes := #[] }, { accessFlags := 25, nameIndex := 143, descriptorIndex := 25, attributes := #[] }, { accessFlags := 25, nameIndex := 53, descriptorIndex := 25, attributes := #[] }, { accessFlags := 25, nameIndex := 24, descriptorIndex := 25, attributes := #[] }, { accessFlags := 25, nameIndex := 162, descriptorIndex := 25, attributes := #[] }, { accessFlags := 25, nameIndex := 187, descriptorIndex := 25, attributes := #[] }, { accessFlags := 26, nameIndex := 48, descriptorIndex := 25, attributes := #[] }, { accessFlags := 25, nameIndex := 277, descriptorIndex := 25, attributes := #[] }, { accessFlags := 25, nameIndex := 280, descriptorIndex := 25, attributes := #[] }, { accessFlags := 25, nameIndex := 282, descriptorIndex := 25, attributes := #[] }, { accessFlags := 25, nameIndex := 284, descriptorIndex := 25, attributes := #[] }, { accessFlags := 25, nameIndex := 286, descriptorIndex := 25, attributes := #[] }, { accessFlags := 25, nameIndex := 288, descriptorIndex := 25, attributes := #[] }, { accessFlags := 25, nameIndex := 290, descriptorIndex := 25, attributes := #[] }, { accessFlags := 25, nameIndex := 292, descriptorIndex := 25, attributes := #[] }, { accessFlags := 26, nameIndex := 108, descriptorIndex := 109, attributes := #[] }, { accessFlags := 25, nameIndex := 294, descriptorIndex := 25, attributes := #[] }])
  fields := #[{ name := "U", type := (.object "jdk/internal/misc/Unsafe"), accessFlags := 24, slot := 0, constantValue := 0 }, { name := "BIG_ENDIAN", type := .boolean, accessFlags := 26, slot := 1, constantValue := 0 }, { name := "LOG2_ARRAY_BOOLEAN_INDEX_SCALE", type := .int, accessFlags := 25, slot := 2, constantValue := 0 }, { name := "LOG2_ARRAY_BYTE_INDEX_SCALE", type := .int, accessFlags := 25, slot := 3, constantValue := 0 }, { name := "LOG2_ARRAY_CHAR_INDEX_SCALE", type := .int, accessFlags := 25, slot := 4, constantValue := 0 }, { name := "LOG2_ARRAY_SHORT_INDEX_SCALE", type := .int, accessFlags := 25, slot := 5, constantValue := 0 }, { name := "LOG2_ARRAY_INT_INDEX_SCALE", type := .int, accessFlags := 25, slot := 6, constantValue := 0 }, { name := "LOG2_ARRAY_LONG_INDEX_SCALE", type := .int, accessFlags := 25, slot := 7, constantValue := 0 }, { name := "LOG2_ARRAY_FLOAT_INDEX_SCALE", type := .int, accessFlags := 25, slot := 8, constantValue := 0 }, { name := "LOG2_ARRAY_DOUBLE_INDEX_SCALE", type := .int, accessFlags := 25, slot := 9, constantValue := 0 }, { name := "LOG2_BYTE_BIT_SIZE", type := .int, accessFlags := 26, slot := 10, constantValue := 0 }, { name := "T_BOOLEAN", type := .int, accessFlags := 25, slot := 11, constantValue := 0 }, { name := "T_CHAR", type := .int, accessFlags := 25, slot := 12, constantValue := 0 }, { name := "T_FLOAT", type := .int, accessFlags := 25, slot := 13, constantValue := 0 }, { name := "T_DOUBLE", type := .int, accessFlags := 25, slot := 14, constantValue := 0 }, { name := "T_BYTE", type := .int, accessFlags := 25, slot := 15, constantValue := 0 }, { name := "T_SHORT", type := .int, accessFlags := 25, slot := 16, constantValue := 0 }, { name := "T_INT", type := .int, accessFlags := 25, slot := 17, constantValue := 0 }, { name := "T_LONG", type := .int, accessFlags := 25, slot := 18, constantValue := 0 }, { name := "JLA", type := (.object "jdk/internal/access/JavaLangAccess"), accessFlags := 26, slot := 19, constantValue := 0 }, { name := "SOFT_MAX_ARRAY_LENGTH", type := .int, accessFlags := 25, slot := 20, constantValue := 0 }]
  methods := #[k13m0]
  instanceTypes := #[]
  staticTypes := #[(.object "jdk/internal/misc/Unsafe"), .boolean, .int, .int, .int, .int, .int, .int, .int, .int, .int, .int, .int, .int, .int, .int, .int, .int, .int, (.object "jdk/internal/access/JavaLangAccess"), .int]
  resolved := Array.replicate 378 none
  statics := none }

def pool14 : Array CpInfo := pool [(1, u "java/lang/Cloneable"), (0, .class_ 1), (0, u "java/lang/Object"), (0, .class_ 3)] 3

/-- java/lang/Cloneable -/
def k14 : Class := { plain "java/lang/Cloneable" (some 0) with
  accessFlags := 1537
  interfaces := #[]
  cf := some (fileOf pool14 2 #[] #[] 1537 4 #[] #[])
  fields := #[]
  methods := #[]
  instanceTypes := #[]
  staticTypes := #[]
  resolved := Array.replicate 8 none
  statics := none }

/-- the primitive byte -/
def k15 : Class := { plain "byte" none with kind := .primitive 'B', accessFlags := 0x411 }
/-- [B -/
def k16 : Class := { plain "[B" (some 0) with kind := .array 15 .byte, interfaces := #[14, 2], accessFlags := 1041 }

/-- the primitive char -/
def k17 : Class := { plain "char" none with kind := .primitive 'C', accessFlags := 0x411 }
/-- [C -/
def k18 : Class := { plain "[C" (some 0) with kind := .array 17 .char, interfaces := #[14, 2], accessFlags := 1041 }

/-- the primitive int -/
def k19 : Class := { plain "int" none with kind := .primitive 'I', accessFlags := 0x411 }
/-- [I -/
def k20 : Class := { plain "[I" (some 0) with kind := .array 19 .int, interfaces := #[14, 2], accessFlags := 1041 }

def heap : Heap := #[{ cls := 7, slots := #[.long 0, .int 1, .null, .int 0, .null, .int 0, .int 0], vm := .statics 7 },
  { cls := 12, slots := #[.null, .null, .null], vm := .statics 12 }]
def classes : Array Class := #[k0, k1, k2, k3, k4, k5, k6, k7, k8, k9, k10, k11, k12, k13, k14, k15, k16, k17, k18, k19, k20]
def interned : List (Array UInt16 × Addr) := []
def slotsUsed : Nat := 10
def theMethod : MethodId := ⟨1, 1⟩
def args0 : Array Value := #[.int 5, .int 3, .int 65, .int 7]
def aboutOver (below : List Frame) : State where
  vm := { classes := classes, interned := interned.toArray }
  heap := heap
  slotsUsed := slotsUsed
  threads := #[{ frames := .invoking theMethod args0 :: below }]
def below0 : List Frame := [.native { method := ⟨0, 0⟩, args := #[] }]
def about1 : State := aboutOver below0
def p0 : Program := .bare "" "" ""
def e0 : Env := launch0.env 0 0 0
theorem w_frames : about1.frames = Frame.invoking theMethod args0 :: below0 := rfl
set_option maxRecDepth 65536 in
theorem w_args : argsFit about1.vm theMethod args0 = true := by decide +kernel
set_option maxRecDepth 65536 in
theorem w_heap : heapFits about1 = true := by decide +kernel
set_option maxRecDepth 65536 in
theorem w_runnable : about1.curStatus? = some .runnable := by decide +kernel
set_option maxRecDepth 65536 in
theorem w_alone : about1.alone = true := by decide +kernel
set_option maxRecDepth 65536 in
theorem w_named : about1.methodNamed? x = some theMethod := by decide +kernel
set_option maxRecDepth 65536 in
theorem w_hears : about1.hears theMethod below0 = true := by decide +kernel
set_option maxRecDepth 65536 in
theorem w_ripe : about1.ripe theMethod args0 below0 = true := by decide +kernel
theorem w_running : about1.status = .running := rfl
set_option maxRecDepth 65536 in
theorem w_room : about1.hasRoom e0.platform room_1 = true :=
  launch0.hasRoom_least _ room_1 (by decide +kernel) (by decide +kernel) (by decide +kernel) (by decide +kernel) (by decide +kernel) (by decide +kernel)
theorem allAtoms_all (ts : List Jvm.Cond) (a : Array Jvm.Value) (st : Jvm.State) : (allAtoms ts).before a st = ts.all (fun c => c.before a st) := by
  induction ts with
  | nil => rfl
  | cons c t ih =>
    show (Jvm.Cond.and c (allAtoms t)).before a st = _
    rw [Jvm.Cond.before_and, ih, List.all_cons]
def words1 : List Jvm.Cond := Jvm.Cond.code x code maxLocals ret :: tables_1
/-- a 'code' word, met by the world's own term for the bytes: nothing is compared byte by byte -/
theorem code_word {y : MethodName} {bytes : ByteArray} {mx : Nat} {rt : Option FieldType} {a : Array Value} {s : State} {m : MethodId} {meth : Method} {c : Code} (h1 : s.methodNamed? y = some m) (h2 : s.vm.method? m = some meth) (h3 : meth.code = some c) (h4 : c.code = bytes)
    (h5 : (c.maxLocals == mx && c.exceptionTable.isEmpty && decide (c.maxStack ≤ mostOperands) && decide (meth.sig.returnType = rt) && !meth.locks && decide (parseMethodDescriptor y.desc = some meth.sig)) = true) : (Jvm.Cond.code y bytes mx rt).before a s = true := by
  simp only [Bool.and_eq_true, beq_iff_eq, Bool.not_eq_true', decide_eq_true_eq] at h5
  obtain ⟨⟨⟨⟨⟨g1, g2⟩, g3⟩, g4⟩, g5⟩, g6⟩ := h5
  simp [Cond.before, Cond.holds, Cond.value, h1, h2, h3, h4, g1, g2, g3, g4, g5, g6]
def isCode : Jvm.Cond → Bool
  | .code _ _ _ _ => true
  | _ => false
theorem all_split {L : List Jvm.Cond} {P : Jvm.Cond → Bool} (h1 : L.all (fun c => isCode c || P c) = true) (h2 : ∀ c ∈ L.filter isCode, P c = true) : L.all P = true := by
  refine List.all_eq_true.mpr fun c hc => ?_
  have h := List.all_eq_true.mp h1 c hc
  rcases Bool.eq_false_or_eq_true (isCode c) with hi | hi
  · exact h2 c (List.mem_filter.mpr ⟨hc, hi⟩)
  · simpa [hi] using h
set_option maxRecDepth 65536 in
theorem w_c0 : (Jvm.Cond.code x code maxLocals ret).before args0 about1 = true := code_word (m := ⟨1, 1⟩) (meth := k1m1) (c := k1c1) (by decide +kernel) rfl rfl rfl (by decide +kernel)
set_option maxRecDepth 65536 in
theorem w_c1 : (Jvm.Cond.code ({ cls := "com/example/gleaner/gleaner/harvest/ValidatorsIsEmptyPinLaw", name := "make", desc := "(II)Ljava/lang/String;" } : Jvm.MethodName) method_3_code (4 : Nat) (Option.some (Jvm.ClassFile.FieldType.object "java/lang/String"))).before args0 about1 = true := code_word (m := ⟨1, 2⟩) (meth := k1m2) (c := k1c2) (by decide +kernel) rfl rfl rfl (by decide +kernel)
set_option maxRecDepth 65536 in
theorem w_c2 : (Jvm.Cond.code ({ cls := "java/lang/String", name := "<init>", desc := "([C)V" } : Jvm.MethodName) jdk_42_method_3_code (2 : Nat) (Option.none : Option Jvm.ClassFile.FieldType)).before args0 about1 = true := code_word (m := ⟨7, 1⟩) (meth := k7m1) (c := k7c1) (by decide +kernel) rfl rfl rfl (by decide +kernel)
set_option maxRecDepth 65536 in
theorem w_c3 : (Jvm.Cond.code ({ cls := "java/lang/String", name := "<init>", desc := "([CIILjava/lang/Void;)V" } : Jvm.MethodName) jdk_42_method_149_code (6 : Nat) (Option.none : Option Jvm.ClassFile.FieldType)).before args0 about1 = true := code_word (m := ⟨7, 3⟩) (meth := k7m3) (c := k7c3) (by decide +kernel) rfl rfl rfl (by decide +kernel)
set_option maxRecDepth 65536 in
theorem w_c4 : (Jvm.Cond.code ({ cls := "java/lang/Object", name := "<init>", desc := "()V" } : Jvm.MethodName) object_method_1_code (1 : Nat) (Option.none : Option Jvm.ClassFile.FieldType)).before args0 about1 = true := code_word (m := ⟨0, 0⟩) (meth := k0m0) (c := k0c0) (by decide +kernel) rfl rfl rfl (by decide +kernel)
set_option maxRecDepth 65536 in
theorem w_c5 : (Jvm.Cond.code ({ cls := "java/lang/StringUTF16", name := "compress", desc := "([CII)[B" } : Jvm.MethodName) jdk_52_method_16_code (6 : Nat) (Option.some (Jvm.ClassFile.FieldType.array Jvm.ClassFile.FieldType.byte))).before args0 about1 = true := code_word (m := ⟨8, 2⟩) (meth := k8m2) (c := k8c2) (by decide +kernel) rfl rfl rfl (by decide +kernel)
set_option maxRecDepth 65536 in
theorem w_c6 : (Jvm.Cond.code ({ cls := "java/lang/StringUTF16", name := "compress", desc := "([CI[BII)I" } : Jvm.MethodName) jdk_52_method_21_code (7 : Nat) (Option.some Jvm.ClassFile.FieldType.int)).before args0 about1 = true := code_word (m := ⟨8, 3⟩) (meth := k8m3) (c := k8c3) (by decide +kernel) rfl rfl rfl (by decide +kernel)
set_option maxRecDepth 65536 in
theorem w_c7 : (Jvm.Cond.code ({ cls := "java/lang/StringUTF16", name := "coderFromArrayLen", desc := "([BI)B" } : Jvm.MethodName) jdk_52_method_15_code (2 : Nat) (Option.some Jvm.ClassFile.FieldType.byte)).before args0 about1 = true := code_word (m := ⟨8, 1⟩) (meth := k8m1) (c := k8c1) (by decide +kernel) rfl rfl rfl (by decide +kernel)
set_option maxRecDepth 65536 in
theorem w_c8 : (Jvm.Cond.code ({ cls := "com/example/gleaner/gleaner/harvest/Validators", name := "<init>", desc := "(Ljava/lang/String;Ljava/lang/String;)V" } : Jvm.MethodName) prog_14_method_1_code (3 : Nat) (Option.none : Option Jvm.ClassFile.FieldType)).before args0 about1 = true := code_word (m := ⟨10, 0⟩) (meth := k10m0) (c := k10c0) (by decide +kernel) rfl rfl rfl (by decide +kernel)
set_option maxRecDepth 65536 in
theorem w_c9 : (Jvm.Cond.code ({ cls := "java/lang/Record", name := "<init>", desc := "()V" } : Jvm.MethodName) jdk_30_method_1_code (1 : Nat) (Option.none : Option Jvm.ClassFile.FieldType)).before args0 about1 = true := code_word (m := ⟨9, 0⟩) (meth := k9m0) (c := k9c0) (by decide +kernel) rfl rfl rfl (by decide +kernel)
set_option maxRecDepth 65536 in
theorem w_c10 : (Jvm.Cond.code ({ cls := "com/example/gleaner/gleaner/harvest/Validators", name := "isEmpty", desc := "()Z" } : Jvm.MethodName) prog_14_method_4_code (1 : Nat) (Option.some Jvm.ClassFile.FieldType.boolean)).before args0 about1 = true := code_word (m := ⟨10, 1⟩) (meth := k10m1) (c := k10c1) (by decide +kernel) rfl rfl rfl (by decide +kernel)
set_option maxRecDepth 65536 in
theorem w_c11 : (Jvm.Cond.code ({ cls := "java/lang/String", name := "isEmpty", desc := "()Z" } : Jvm.MethodName) jdk_42_method_55_code (1 : Nat) (Option.some Jvm.ClassFile.FieldType.boolean)).before args0 about1 = true := code_word (m := ⟨7, 2⟩) (meth := k7m2) (c := k7c2) (by decide +kernel) rfl rfl rfl (by decide +kernel)
def codes1 : List Jvm.Cond := [Jvm.Cond.code x code maxLocals ret, Jvm.Cond.code ({ cls := "com/example/gleaner/gleaner/harvest/ValidatorsIsEmptyPinLaw", name := "make", desc := "(II)Ljava/lang/String;" } : Jvm.MethodName) method_3_code (4 : Nat) (Option.some (Jvm.ClassFile.FieldType.object "java/lang/String")), Jvm.Cond.code ({ cls := "java/lang/String", name := "<init>", desc := "([C)V" } : Jvm.MethodName) jdk_42_method_3_code (2 : Nat) (Option.none : Option Jvm.ClassFile.FieldType), Jvm.Cond.code ({ cls := "java/lang/String", name := "<init>", desc := "([CIILjava/lang/Void;)V" } : Jvm.MethodName) jdk_42_method_149_code (6 : Nat) (Option.none : Option Jvm.ClassFile.FieldType), Jvm.Cond.code ({ cls := "java/lang/Object", name := "<init>", desc := "()V" } : Jvm.MethodName) object_method_1_code (1 : Nat) (Option.none : Option Jvm.ClassFile.FieldType), Jvm.Cond.code ({ cls := "java/lang/StringUTF16", name := "compress", desc := "([CII)[B" } : Jvm.MethodName) jdk_52_method_16_code (6 : Nat) (Option.some (Jvm.ClassFile.FieldType.array Jvm.ClassFile.FieldType.byte)), Jvm.Cond.code ({ cls := "java/lang/StringUTF16", name := "compress", desc := "([CI[BII)I" } : Jvm.MethodName) jdk_52_method_21_code (7 : Nat) (Option.some Jvm.ClassFile.FieldType.int), Jvm.Cond.code ({ cls := "java/lang/StringUTF16", name := "coderFromArrayLen", desc := "([BI)B" } : Jvm.MethodName) jdk_52_method_15_code (2 : Nat) (Option.some Jvm.ClassFile.FieldType.byte), Jvm.Cond.code ({ cls := "com/example/gleaner/gleaner/harvest/Validators", name := "<init>", desc := "(Ljava/lang/String;Ljava/lang/String;)V" } : Jvm.MethodName) prog_14_method_1_code (3 : Nat) (Option.none : Option Jvm.ClassFile.FieldType), Jvm.Cond.code ({ cls := "java/lang/Record", name := "<init>", desc := "()V" } : Jvm.MethodName) jdk_30_method_1_code (1 : Nat) (Option.none : Option Jvm.ClassFile.FieldType), Jvm.Cond.code ({ cls := "com/example/gleaner/gleaner/harvest/Validators", name := "isEmpty", desc := "()Z" } : Jvm.MethodName) prog_14_method_4_code (1 : Nat) (Option.some Jvm.ClassFile.FieldType.boolean), Jvm.Cond.code ({ cls := "java/lang/String", name := "isEmpty", desc := "()Z" } : Jvm.MethodName) jdk_42_method_55_code (1 : Nat) (Option.some Jvm.ClassFile.FieldType.boolean)]
set_option maxRecDepth 65536 in
theorem codes_eq : words1.filter isCode = codes1 := rfl
theorem w_codes : ∀ c ∈ words1.filter isCode, c.before args0 about1 = true := by
  rw [codes_eq]
  intro c hc
  simp only [codes1, List.mem_cons, List.not_mem_nil, or_false] at hc
  rcases hc with rfl | rfl | rfl | rfl | rfl | rfl | rfl | rfl | rfl | rfl | rfl | rfl
  · exact w_c0
  · exact w_c1
  · exact w_c2
  · exact w_c3
  · exact w_c4
  · exact w_c5
  · exact w_c6
  · exact w_c7
  · exact w_c8
  · exact w_c9
  · exact w_c10
  · exact w_c11
set_option maxRecDepth 65536 in
theorem w_t1 : (words1.take 24).all (fun c => isCode c || c.before args0 about1) = true := by decide +kernel
set_option maxRecDepth 65536 in
theorem w_t2 : ((words1.drop 24).take 24).all (fun c => isCode c || c.before args0 about1) = true := by decide +kernel
set_option maxRecDepth 65536 in
theorem w_t3 : ((words1.drop 24).drop 24).all (fun c => isCode c || c.before args0 about1) = true := by decide +kernel
theorem w_tables : (allAtoms (Jvm.Cond.code x code maxLocals ret :: tables_1)).before args0 about1 = true := by
  rw [allAtoms_all]
  show words1.all (fun c => c.before args0 about1) = true
  refine all_split ?_ w_codes
  rw [← List.take_append_drop 24 words1, List.all_append, w_t1, ← List.take_append_drop 24 (words1.drop 24), List.all_append, w_t2, w_t3]
  rfl
set_option maxRecDepth 65536 in
theorem w_rest : rest_1_c.before args0 about1 = true := by decide +kernel
set_option maxRecDepth 65536 in
theorem w_case : (Jvm.Cond.and given_1 narrow_1).before args0 about1 = true := by decide +kernel
set_option maxRecDepth 65536 in
theorem w_consts : constsHeld consts_1 about1 := Jvm.Lit.constsHeldB_iff.mp (by decide +kernel)
theorem w_applies : (headSpec (Jvm.Cond.code x code maxLocals ret :: tables_1) room_1).applies x e0.platform about1 = true :=
  (Spec.applies_iff w_frames).mpr ⟨w_running, w_runnable, w_alone, w_named, w_hears, w_ripe, w_room, w_tables⟩
theorem atStart : AtStart classFile x code maxLocals ret World_1 tables_1 room_1 Calls_1 rest_1 Pre_1 launch0 p0 e0 about1 theMethod args0 below0 :=
  ⟨lists_1, trivial, launch0.admits_env _ _ _, launch0.least_env, fairChoices_fair.cas, fairChoices_fair.clock, w_frames, w_args, w_heap, w_applies, ⟨w_consts, trivial⟩, w_rest, w_case⟩
end start1
theorem witness_1 : WitnessClaimed_1 := ⟨start1.p0, start1.e0, start1.about1, start1.theMethod, start1.args0, start1.below0, start1.atStart⟩
end Jvm.Pilot.@@N@@
