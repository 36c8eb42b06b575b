import Derived.Test.Qxb6605213aLaws
import Derived.ProofKit
import Derived.OpenShut
import Derived.ChangeOld
import Derived.Below
import Derived.Deep.Slices
import Derived.Deep.Strs
namespace Go.Proofs.Qxb6605213a
open Go.ChangeShapes Go.WideShapes Go.ChangeAt Go.RowKit Go.Deep

theorem Try.cells49 : Try.prog.cellsOf 49 = 1 := by kernel_rfl
theorem Try.cells48 : Try.prog.cellsOf 48 = 4 := by kernel_rfl
theorem Try.cells5 : Try.prog.cellsOf 5 = 1 := by kernel_rfl
theorem Try.cells4 : Try.prog.cellsOf 4 = 1 := by kernel_rfl
theorem Try.cells22 : Try.prog.cellsOf 22 = 1 := by kernel_rfl

section
variable {H : Type} {enc : TypeId × Value → H} {w : World} {base : Nat} {spare : Nat → Bool} {held : Bool}

/-- A slice of words, opened. -/
theorem open_words {fuel : Nat} {cs : List Value} {x : DataW H × List MemPlace} (h : DataW.trod enc Try.prog w base spare held fuel 22 cs = some x) :
    ∃ a n c zs, cs = [.slice a n c] ∧ Wd w a n zs := by
  rcases open_ints Try.underlying22 Try.underlying49 Try.cells49 h with ⟨hcs, _⟩ | ⟨a, l, c, zs, hcs, _, hl, hm, hz, _, hcell, hwz⟩
  · exact ⟨none, 0, 0, [], hcs, wd_nil w⟩
  · have hlz : l ≤ zs.length := by rw [hz]; split <;> omega
    have hwd : ∀ j, j < l → ((wd ((zs.take l).map Int.toNat) j : Nat) : Int) = zs.getD j 0 ∧ wd ((zs.take l).map Int.toNat) j < 18446744073709551616 := by
      intro j hj
      have hj' : j < zs.length := by omega
      have hw := hwz zs[j] (List.getElem_mem hj')
      have e : wd ((zs.take l).map Int.toNat) j = zs[j].toNat := by
        rw [wd_lt (by simp; omega)]
        simp
      have hb := bounds_u64 hw
      rw [e]
      simp only [List.getD, List.getElem?_eq_getElem hj', Option.getD_some]
      omega
    refine ⟨some a, l, c, (zs.take l).map Int.toNat, hcs, ⟨by simp; omega, ?_, by unfold maxLen at hm; omega, ?_⟩⟩
    · intro j
      by_cases hj : j < l
      · exact (hwd j hj).2
      · rw [wd_ge (by simp; omega)]; decide
    · intro i hi
      obtain ⟨b, off, rfl, hc⟩ := ints_at hcell (by omega)
      refine ⟨b, off, rfl, fun j hj => ?_⟩
      rw [hc j (by omega), (hwd j hj).1]

/-- Four cells that read as a struct of type 48 are a lock. -/
theorem open_lock {fuel : Nat} {c0 c1 c2 c3 : Value} {x : DataW H × List MemPlace} (h : DataW.trod enc Try.prog w base spare held fuel 48 [c0, c1, c2, c3] = some x) :
    ∃ (m : ML) (ra : Option Addr) (rn rc : Nat) (wa : Option Addr) (wn wc : Nat), c0 = .int .u8 (m.mode : Nat) ∧ c1 = .bool m.whole ∧ c2 = .slice ra rn rc ∧ c3 = .slice wa wn wc ∧ Wd w ra rn m.read ∧ Wd w wa wn m.write ∧ m.mode < 256 := by
  obtain ⟨xs, n, _, _, _, hxl, hf⟩ := DataW.trod_struct Try.underlying48 h
  match xs, hxl with
  | [y0, y1, y2, y3], _ =>
    have g0 := hf 0 _ rfl
    have g1 := hf 1 _ rfl
    have g2 := hf 2 _ rfl
    have g3 := hf 3 _ rfl
    simp [Try.cells5, Try.cells4, Try.cells22] at g0 g1 g2 g3
    obtain ⟨z, e0, _, wz⟩ := DataW.trod_int Try.underlying5 g0
    obtain ⟨bb, e1, _⟩ := DataW.trod_bool Try.underlying4 g1
    obtain ⟨ra, rn, rc, rs, e2, h2⟩ := open_words g2
    obtain ⟨wa, wn, wc, ws, e3, h3⟩ := open_words g3
    have hb := bounds_u8 wz
    simp at e0 e1 e2 e3
    refine ⟨⟨z.toNat, bb, rs, ws⟩, ra, rn, rc, wa, wn, wc, ?_, e1, e2, e3, h2, h3, ?_⟩
    · rw [e0]; simp only; congr 1; omega
    · simp only; omega

/-- A slice of locks, opened. -/
theorem open_modes {fuel : Nat} {cs : List Value} {x : DataW H × List MemPlace} (h : DataW.trod enc Try.prog w base spare held fuel 23 cs = some x) :
    ∃ a n c ms, cs = [.slice a n c] ∧ Ms w a n ms := by
  rcases open_slice Try.underlying23 h with ⟨hcs, _⟩ | ⟨a, l, c, m, n, D, Pl, hcs, _, hl, hm, hmm, _, hx⟩
  · exact ⟨none, 0, 0, [], hcs, ms_nil w⟩
  · have hlm : l ≤ m := by rw [hmm]; split <;> omega
    have each : ∀ i, i < l → ∃ q : ML, ∃ ra rn rc wa wn wc, w.cell? (a.add (i * 4)) = some (.int .u8 (q.mode : Nat)) ∧ w.cell? (a.add (i * 4 + 1)) = some (.bool q.whole) ∧ w.cell? (a.add (i * 4 + 2)) = some (.slice ra rn rc) ∧ w.cell? (a.add (i * 4 + 3)) = some (.slice wa wn wc) ∧ Wd w ra rn q.read ∧ Wd w wa wn q.write ∧ q.mode < 256 := by
      intro i hi
      obtain ⟨cs', h1, h2⟩ := hx i (by omega)
      rw [Try.cells48] at h1
      obtain ⟨_, hlen, hcell⟩ := World.cells?_some h1
      match cs', hlen with
      | [v0, v1, v2, v3], _ =>
        obtain ⟨q, ra, rn, rc, wa, wn, wc, e0, e1, e2, e3, k1, k2, k3⟩ := open_lock h2
        have g0 := hcell 0 (by omega)
        have g1 := hcell 1 (by omega)
        have g2 := hcell 2 (by omega)
        have g3 := hcell 3 (by omega)
        rw [add_add] at g0 g1 g2 g3
        exact ⟨q, ra, rn, rc, wa, wn, wc, by simpa [e0] using g0, by simpa [e1] using g1, by simpa [e2] using g2, by simpa [e3] using g3, k1, k2, k3⟩
    have inh : Inhabited ML := ⟨mlNil⟩
    obtain ⟨q, hq⟩ := choose_lt each
    have hml : ∀ j, j < l → ml ((List.range l).map q) j = q j := by
      intro j hj
      rw [ml_lt (by simpa using hj)]
      simp
    refine ⟨some a, l, c, (List.range l).map q, hcs, ⟨by simp, by unfold maxLen at hm; omega, ?_⟩⟩
    intro i hi
    obtain ⟨b, off, spot⟩ := a
    have hspot : spot = none := by
      obtain ⟨_, _, _, _, _, _, h0, _⟩ := hq 0 (by omega)
      simpa [Addr.add] using World.cell?_spot h0
    subst hspot
    refine ⟨b, off, rfl, fun j hj => ?_⟩
    obtain ⟨ra, rn, rc, wa, wn, wc, k0, k1, k2, k3, k4, k5, k6⟩ := hq j hj
    rw [Go.WideShapes.add_plain] at k0 k1 k2 k3
    exact ⟨ra, rn, rc, wa, wn, wc, by rw [hml j hj]; exact ⟨k0, k1, k2, k3, k4, k5, k6⟩⟩
end

end Go.Proofs.Qxb6605213a
