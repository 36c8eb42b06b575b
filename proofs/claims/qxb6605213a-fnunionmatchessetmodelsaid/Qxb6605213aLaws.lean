import Derived.Test.Qxb6605213aMake
import Derived.Test.Qxb6605213aValid
namespace Go.Proofs.Qxb6605213a
open Go.RowKit Go.Deep

/-- Three arguments hold an Access' data. -/
structure In (w : World) (a1 : Option Addr) (n1 : Nat) (a2 : Option Addr) (n2 : Nat) (a3 : Option Addr) (n3 : Nat) (A : Acc) : Prop where
  r : Wd w a1 n1 A.read
  x : Wd w a2 n2 A.write
  m : Ms w a3 n3 A.modes

theorem calls_flip {P : Program} {f : FuncId} {args : Array Value} {w : World} {Q : Ending → Prop} (h : Calls P f args w fun e w' => Q e ∧ w' = w) : Calls P f args w fun e w' => Q e ∧ w = w' := h.mono fun _ _ h => ⟨h.1, h.2.symm⟩

structure Box (w : World) (b : Nat) (v0 v1 v2 : Value) : Prop where
  c0 : w.cell? ⟨b, 0, none⟩ = some v0
  c1 : w.cell? ⟨b, 1, none⟩ = some v1
  c2 : w.cell? ⟨b, 2, none⟩ = some v2

theorem Box.below {w w' : World} {b : Nat} {v0 v1 v2 : Value} (h : Box w b v0 v1 v2) (hb : Below w.heap.size w w') : Box w' b v0 v1 v2 :=
  ⟨cell_below hb h.c0, cell_below hb h.c1, cell_below hb h.c2⟩

theorem box_new (w : World) (v0 v1 v2 : Value) : Box (w.alloc (.cells #[v0, v1, v2] 32)) w.heap.size v0 v1 v2 := ⟨by go_simp, by go_simp, by go_simp⟩

/-! ### The plain laws -/

theorem valid_lt {ms : List ML} (h : Valid ms) : ∀ (d i : Nat), i + d + 1 < ms.length → (ml ms i).mode < (ml ms (i + d + 1)).mode := by
  intro d
  induction d with
  | zero => intro i hi; have := (h (i + 1) hi).2 (by omega); simpa using this
  | succ d ih =>
    intro i hi
    have h1 := ih i (by omega)
    have h2 := (h (i + (d + 1) + 1) hi).2 (by omega)
    have e : i + (d + 1) + 1 - 1 = i + d + 1 := by omega
    rw [e] at h2
    omega

theorem valid_ne {ms : List ML} (h : Valid ms) {i j : Nat} (hij : i < j) (hj : j < ms.length) : (ml ms i).mode < (ml ms j).mode := by
  have := valid_lt h (j - i - 1) i (by omega)
  have e : i + (j - i - 1) + 1 = j := by omega
  rw [e] at this
  exact this

theorem findM_self {ms : List ML} (h : Valid ms) {k : Nat} (hk : k < ms.length) : findM ms (ml ms k).mode = (ml ms k, true) :=
  findM_hit hk rfl fun j hj => by have := valid_ne h hj hk; omega

theorem mlCov_refl (l : ML) : mlCov l l = true := by
  simp [mlCov, contB_refl]

theorem mlCov_trans {l m n : ML} (h : mlCov l m = true) (k : mlCov m n = true) : mlCov l n = true := by
  simp only [mlCov, Bool.or_eq_true, Bool.and_eq_true, Bool.not_eq_true'] at *
  rcases h with h | ⟨⟨h1, h2⟩, h3⟩
  · exact .inl h
  · rcases k with k | ⟨⟨k1, k2⟩, k3⟩
    · rw [k] at h1; cases h1
    · exact .inr ⟨⟨k1, contB_trans h2 k2⟩, contB_trans h3 k3⟩

theorem findM_some {ms : List ML} {m : Nat} {l : ML} (h : findM ms m = (l, true)) : l ∈ ms ∧ l.mode = m := by
  unfold findM at h
  split at h
  · rename_i x e
    cases h
    exact ⟨List.mem_of_find?_eq_some e, by simpa using List.find?_some e⟩
  · cases h

theorem covB_iff (A B : Acc) : covB A B = true ↔ contB A.read B.read = true ∧ contB A.write B.write = true ∧ ∀ n ∈ B.modes, mCov A n = true := by
  simp [covB, and_assoc]

theorem mCov_iff (A : Acc) (n : ML) : mCov A n = true ↔ ∃ l, findM A.modes n.mode = (l, true) ∧ mlCov l n = true := by
  unfold mCov
  constructor
  · intro h
    simp only [Bool.and_eq_true] at h
    exact ⟨_, Prod.ext rfl h.1, h.2⟩
  · rintro ⟨l, e, h⟩
    rw [e]; simp [h]

theorem covB_refl {A : Acc} (h : Valid A.modes) : covB A A = true :=
  covB_true (contB_refl _) (contB_refl _) fun _ hj => (mCov_iff _ _).2 ⟨_, findM_self h hj, mlCov_refl _⟩

theorem covB_trans {A B C : Acc} (h : covB A B = true) (k : covB B C = true) : covB A C = true := by
  rw [covB_iff] at *
  refine ⟨contB_trans h.1 k.1, contB_trans h.2.1 k.2.1, fun n hn => ?_⟩
  obtain ⟨m, e1, h1⟩ := (mCov_iff _ _).1 (k.2.2 n hn)
  obtain ⟨hm, em⟩ := findM_some e1
  obtain ⟨l, e2, h2⟩ := (mCov_iff _ _).1 (h.2.2 m hm)
  rw [em] at e2
  exact (mCov_iff _ _).2 ⟨l, e2, mlCov_trans h2 h1⟩

end Go.Proofs.Qxb6605213a
