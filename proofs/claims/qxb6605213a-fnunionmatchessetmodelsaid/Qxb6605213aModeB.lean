import Derived.Test.Qxb6605213aMode
namespace Go.Proofs.Qxb6605213a
open Go.RowKit

set_option maxHeartbeats 400000 in
theorem inMode0_any (s1 s2 : Value) (ma : Option Addr) (mn mc : Nat) (ms : List ML) (m : Nat) (w0 w : World) (h : Ms w0 ma mn ms) (hw0 : Below w0.heap.size w0 w) :
    Calls Try.prog 29 #[.agg #[s1, s2, .slice ma mn mc], .int .u8 (m : Nat)] w fun e w' => ∃ ra rn rc wa wn wc, e = .returned (.tuple #[.agg #[.int .u8 ((findM ms m).1.mode : Nat), .bool (findM ms m).1.whole, .slice ra rn rc, .slice wa wn wc], .bool (findM ms m).2]) ∧ Wd w0 ra rn (findM ms m).1.read ∧ Wd w0 wa wn (findM ms m).1.write ∧ Below w.heap.size w w' := by
  have mx := h.max
  have e0 : Below w.heap.size w ((w.alloc (.cells #[s1, s2, .slice ma mn mc] 32)).alloc (.cells #[.int .u8 0, .bool false, .slice none 0 0, .slice none 0 0] 44)) := ((Below.refl _ _).alloc (Nat.le_refl _) _).alloc (by simp) _
  go_enter Try.func29, Try.ntmps29
  go_wp2
  go_loopw [11] (fun i wr => ∃ k : Nat, k ≤ mn ∧ i = .int .i64 k ∧ (∀ j, j < k → (ml ms j).mode ≠ m) ∧ Below (w.heap.size + 2) ((w.alloc (.cells #[s1, s2, .slice ma mn mc] 32)).alloc (.cells #[.int .u8 0, .bool false, .slice none 0 0, .slice none 0 0] 44)) wr) (fun i _ => mn - (intOf i).toNat)
  case atStart => exact ⟨0, by omega, rfl, by omega, Below.refl _ _⟩
  case round =>
    obtain ⟨k, hk, rfl, hall, hb⟩ := hrel
    have hz : w.heap.size + 2 ≤ wr.heap.size := by have := hb.size; simpa using this
    have zc : ∀ ob i, (wr.alloc ob).cell? ⟨w.heap.size + 1, i, none⟩ = _ := fun ob i => (hb.alloc hz ob).cell (p := ⟨w.heap.size + 1, i, none⟩) (by simp)
    have zf : ∀ ob i, (wr.alloc ob).frozen? ⟨w.heap.size + 1, i, none⟩ = _ := fun ob i => (hb.alloc hz ob).frozen (p := ⟨w.heap.size + 1, i, none⟩) (by simp)
    have z0 : ∀ ob, (wr.alloc ob).cell? ⟨w.heap.size + 1, 0, none⟩ = some (.int .u8 0) := fun ob => by rw [zc]; go_simp
    have z1 : ∀ ob, (wr.alloc ob).cell? ⟨w.heap.size + 1, 1, none⟩ = some (.bool false) := fun ob => by rw [zc]; go_simp
    have z2 : ∀ ob, (wr.alloc ob).cell? ⟨w.heap.size + 1, 2, none⟩ = some (.slice none 0 0) := fun ob => by rw [zc]; go_simp
    have z3 : ∀ ob, (wr.alloc ob).cell? ⟨w.heap.size + 1, 3, none⟩ = some (.slice none 0 0) := fun ob => by rw [zc]; go_simp
    have y0 : ∀ ob, (wr.alloc ob).frozen? ⟨w.heap.size + 1, 0, none⟩ = false := fun ob => by rw [zf]; go_simp
    have y1 : ∀ ob, (wr.alloc ob).frozen? ⟨w.heap.size + 1, 1, none⟩ = false := fun ob => by rw [zf]; go_simp
    have y2 : ∀ ob, (wr.alloc ob).frozen? ⟨w.heap.size + 1, 2, none⟩ = false := fun ob => by rw [zf]; go_simp
    have y3 : ∀ ob, (wr.alloc ob).frozen? ⟨w.heap.size + 1, 3, none⟩ = false := fun ob => by rw [zf]; go_simp
    clear zc zf
    obtain ⟨hc, hf⟩ := bcell (W := (w.alloc (.cells #[s1, s2, .slice ma mn mc] 32)).alloc (.cells #[.int .u8 0, .bool false, .slice none 0 0, .slice none 0 0] 44)) (by simpa using hb)
    have hB : Below w.heap.size w wr := e0.trans (hb.mono (by omega))
    by_cases hlt : k < mn
    · obtain ⟨b, o, rfl, hcell⟩ := h.cell k hlt
      obtain ⟨ra, rn, rc, wa, wn, wc, hl⟩ := hcell k hlt
      obtain ⟨q0, q1, q2, q3, hr, hw, hmm⟩ := hl.below (hw0.trans (hB.mono hw0.size))
      by_cases hit : (ml ms k).mode = m
      · have hit' : (((ml ms k).mode : Int) == (m : Int)) = true := by simp [hit]
        have HI : Hid ((ml ms k).mode = m) := hit
        clear hit
        go_wp2
        have fe := findM_hit (by have := h.len; omega) HI.out hall
        refine bodyPost_ret (v := .tuple #[.agg #[.int .u8 ((ml ms k).mode : Nat), .bool (ml ms k).whole, .slice ra rn rc, .slice wa wn wc], .bool true]) (by simp [results, Try.results29, go_sem, z0, z1, z2, z3]) rfl ⟨ra, rn, rc, wa, wn, wc, by rw [fe], by rw [fe]; exact hl.hr, by rw [fe]; exact hl.hw, ?_⟩
        exact ((((hB.alloc (by omega) _).setCell (by simp) _).setCell (by simp) _).setCell (by simp) _).setCell (by simp) _
      · have hit' : (((ml ms k).mode : Int) == (m : Int)) = false := by simp; omega
        go_wp2
        go_roundw
        case rel => exact ⟨k + 1, by omega, by go_num, fun j hj => by (rcases Nat.lt_succ_iff_lt_or_eq.1 hj with h | rfl); exact hall j h; exact hit, hb.alloc hz _⟩
        case measure => simp [intOf]; omega
    · have x0 : wr.cell? ⟨w.heap.size + 1, 0, none⟩ = some (.int .u8 0) := by rw [hc _ _ (by simp)]; go_simp
      have x1 : wr.cell? ⟨w.heap.size + 1, 1, none⟩ = some (.bool false) := by rw [hc _ _ (by simp)]; go_simp
      have x2 : wr.cell? ⟨w.heap.size + 1, 2, none⟩ = some (.slice none 0 0) := by rw [hc _ _ (by simp)]; go_simp
      have x3 : wr.cell? ⟨w.heap.size + 1, 3, none⟩ = some (.slice none 0 0) := by rw [hc _ _ (by simp)]; go_simp
      have v0 : wr.frozen? ⟨w.heap.size + 1, 0, none⟩ = false := by rw [hf _ _ (by simp)]; go_simp
      have v1 : wr.frozen? ⟨w.heap.size + 1, 1, none⟩ = false := by rw [hf _ _ (by simp)]; go_simp
      have v2 : wr.frozen? ⟨w.heap.size + 1, 2, none⟩ = false := by rw [hf _ _ (by simp)]; go_simp
      have v3 : wr.frozen? ⟨w.heap.size + 1, 3, none⟩ = false := by rw [hf _ _ (by simp)]; go_simp
      go_wp2
      have fe := findM_miss (m := m) (fun j hj => hall j (by have := h.len; omega))
      refine bodyPost_ret (v := .tuple #[.agg #[.int .u8 0, .bool false, .slice none 0 0, .slice none 0 0], .bool false]) (by simp [results, Try.results29, go_sem, x0, x1, x2, x3]) rfl ⟨none, 0, 0, none, 0, 0, by rw [fe]; rfl, by rw [fe]; exact wd_nil w0, by rw [fe]; exact wd_nil w0, ?_⟩
      exact (((hB.setCell (by simp) _).setCell (by simp) _).setCell (by simp) _).setCell (by simp) _

theorem inMode0 (s1 s2 : Value) (ma : Option Addr) (mn mc : Nat) (ms : List ML) (m : Nat) (w0 w : World) (h : Ms w0 ma mn ms) (hw0 : Below w0.heap.size w0 w) (l : ML) (ok : Bool) (hf : findM ms m = (l, ok)) :
    Calls Try.prog 29 #[.agg #[s1, s2, .slice ma mn mc], .int .u8 (m : Nat)] w fun e w' => ∃ ra rn rc wa wn wc, e = .returned (.tuple #[.agg #[.int .u8 (l.mode : Nat), .bool l.whole, .slice ra rn rc, .slice wa wn wc], .bool ok]) ∧ Wd w0 ra rn l.read ∧ Wd w0 wa wn l.write ∧ Below w.heap.size w w' := by
  have := inMode0_any s1 s2 ma mn mc ms m w0 w h hw0
  rw [hf] at this
  exact this
end Go.Proofs.Qxb6605213a
