import Derived.Test.Qxb6605213aCloneM
namespace Go.Proofs.Qxb6605213a
open Go.RowKit Go.Deep
attribute [local go_sem ↓] Go.wp_at_zero Go.wp_at_succ

set_option maxHeartbeats 400000 in
theorem newML_any (m : Int) (wh : Bool) (a1 a2 : Option Addr) (n1 n2 c1 c2 : Nat) (w : World) :
    Calls Try.prog 26 #[.int .u8 m, .bool wh, .slice a1 n1 c1, .slice a2 n2 c2] w fun e w' => e = .returned (.agg #[.int .u8 m, .bool wh, .slice a1 n1 c1, .slice a2 n2 c2]) ∧ Below w.heap.size w w' := by
  go_enter Try.func26, Try.ntmps26
  go_wp2
  exact bodyPost_ret (v := .agg #[.int .u8 m, .bool wh, .slice a1 n1 c1, .slice a2 n2 c2]) (by simp [results, Try.results26, go_sem]) rfl ⟨rfl, (Below.refl _ _).alloc (Nat.le_refl _) _⟩

set_option maxHeartbeats 400000 in
theorem newAcc_any (a0 a1 a2 : Option Addr) (n0 n1 n2 c0 c1 c2 : Nat) (w : World) :
    Calls Try.prog 27 #[.slice a0 n0 c0, .slice a1 n1 c1, .slice a2 n2 c2] w fun e w' => e = .returned (.agg #[.slice a0 n0 c0, .slice a1 n1 c1, .slice a2 n2 c2]) ∧ Below w.heap.size w w' := by
  go_enter Try.func27, Try.ntmps27
  go_wp2
  exact bodyPost_ret (v := .agg #[.slice a0 n0 c0, .slice a1 n1 c1, .slice a2 n2 c2]) (by simp [results, Try.results27, go_sem]) rfl ⟨rfl, (Below.refl _ _).alloc (Nat.le_refl _) _⟩

def acc0 : Obj := .cells #[.slice none 0 0, .slice none 0 0, .slice none 0 0] 32

theorem below4g {B N : Nat} {w w2 : World} {o0 o1 o2 o3 : Nat} {v0 v1 v2 v3 : Value} (hN : B ≤ N) (h : Below B w w2) : Below B w ((((w2.setCell ⟨N, o0, none⟩ v0).setCell ⟨N, o1, none⟩ v1).setCell ⟨N, o2, none⟩ v2).setCell ⟨N, o3, none⟩ v3) :=
  (((h.setCell (p := ⟨N, o0, none⟩) hN _).setCell (p := ⟨N, o1, none⟩) hN _).setCell (p := ⟨N, o2, none⟩) hN _).setCell (p := ⟨N, o3, none⟩) hN _

/-- One lock more is laid, its words as they were in w0. -/
theorem laid_setF {w0 w : World} {N t m : Nat} {f : Nat → Value} {ms : List ML} {k : Nat} {ra wa : Option Addr} {rn rc wn wc : Nat} (hrow : w.rowIs N t m f) (h : Laid w0 N f ms k) (h1 : Wd w0 ra rn (ml ms k).read) (h2 : Wd w0 wa wn (ml ms k).write)
    (g1 : awayN ra rn N) (g2 : awayN wa wn N) (hm : (ml ms k).mode < 256) :
    ∃ f', ((((w.setCell ⟨N, k * 4, none⟩ (.int .u8 ((ml ms k).mode : Nat))).setCell ⟨N, k * 4 + 1, none⟩ (.bool (ml ms k).whole)).setCell ⟨N, k * 4 + 2, none⟩ (.slice ra rn rc)).setCell ⟨N, k * 4 + 3, none⟩ (.slice wa wn wc)).rowIs N t m f' ∧
      Laid w0 N f' ms (k + 1) := by
  refine ⟨_, (((hrow.set (k * 4) _).set (k * 4 + 1) _).set (k * 4 + 2) _).set (k * 4 + 3) _, ?_⟩
  intro j hj
  by_cases e : j = k
  · subst e
    refine ⟨ra, rn, rc, wa, wn, wc, ?_, ?_, ?_, ?_, h1, h2, g1, g2, hm⟩
    · show (if _ then _ else if _ then _ else if _ then _ else if _ then _ else _) = _
      rw [if_neg (by omega), if_neg (by omega), if_neg (by omega), if_pos rfl]
    · show (if _ then _ else if _ then _ else if _ then _ else if _ then _ else _) = _
      rw [if_neg (by omega), if_neg (by omega), if_pos rfl]
    · show (if _ then _ else if _ then _ else if _ then _ else if _ then _ else _) = _
      rw [if_neg (by omega), if_pos rfl]
    · show (if _ then _ else if _ then _ else if _ then _ else if _ then _ else _) = _
      rw [if_pos rfl]
  · obtain ⟨ra', rn', rc', wa', wn', wc', f0, f1, f2, f3, k1, k2, j1, j2, hm'⟩ := h j (by omega)
    refine ⟨ra', rn', rc', wa', wn', wc', ?_, ?_, ?_, ?_, k1, k2, j1, j2, hm'⟩
    · show (if _ then _ else if _ then _ else if _ then _ else if _ then _ else _) = _
      rw [if_neg (by omega), if_neg (by omega), if_neg (by omega), if_neg (by omega), f0]
    · show (if _ then _ else if _ then _ else if _ then _ else if _ then _ else _) = _
      rw [if_neg (by omega), if_neg (by omega), if_neg (by omega), if_neg (by omega), f1]
    · show (if _ then _ else if _ then _ else if _ then _ else if _ then _ else _) = _
      rw [if_neg (by omega), if_neg (by omega), if_neg (by omega), if_neg (by omega), f2]
    · show (if _ then _ else if _ then _ else if _ then _ else if _ then _ else _) = _
      rw [if_neg (by omega), if_neg (by omega), if_neg (by omega), if_neg (by omega), f3]

theorem acc_cell {w w1 : World} (hb : Below (w.heap.size + 1) (w.alloc (.cells #[.slice none 0 0, .slice none 0 0, .slice none 0 0] 32)) w1) (i : Nat) (hi : i < 3) : w1.cell? ⟨w.heap.size, i, none⟩ = some (.slice none 0 0) := by
  rw [hb.cell (p := ⟨w.heap.size, i, none⟩) (by simp)]
  match i, hi with
  | 0, _ => go_simp
  | 1, _ => go_simp
  | 2, _ => go_simp
theorem acc_froz {w w1 : World} (hb : Below (w.heap.size + 1) (w.alloc (.cells #[.slice none 0 0, .slice none 0 0, .slice none 0 0] 32)) w1) (i : Nat) : w1.frozen? ⟨w.heap.size, i, none⟩ = false := by
  rw [hb.frozen (p := ⟨w.heap.size, i, none⟩) (by simp)]
  go_simp

theorem below3 {B N : Nat} {w w2 : World} {o0 o1 o2 : Nat} {v0 v1 v2 : Value} (hN : B ≤ N) (h : Below B w w2) : Below B w (((w2.setCell ⟨N, o0, none⟩ v0).setCell ⟨N, o1, none⟩ v1).setCell ⟨N, o2, none⟩ v2) :=
  ((h.setCell (p := ⟨N, o0, none⟩) hN _).setCell (p := ⟨N, o1, none⟩) hN _).setCell (p := ⟨N, o2, none⟩) hN _

theorem ms_nil (w : World) : Ms w none 0 [] := ⟨rfl, by omega, fun i hi => by omega⟩

set_option maxHeartbeats 1000000 in
theorem make_any (a1 a2 a : Option Addr) (n1 n2 n c1 c2 c : Nat) (A : Acc) (w : World) (h1 : Wd w a1 n1 A.read) (h2 : Wd w a2 n2 A.write) (h : Ms w a n A.modes) (hn : n ≤ 1048576) :
    Calls Try.prog 12 #[.slice a1 n1 c1, .slice a2 n2 c2, .slice a n c] w fun e w' => ∃ v, e = .returned v ∧ AccIs w' v A ∧ Below w.heap.size w w' := by
  have hmk := run_make4 (P := Try.prog) 30 44 Try.underlying30 Try.info44 n hn
  have hne := fun w => run_neq_slice_nil_any (P := Try.prog) w 23 48 a n c 0 0 Try.underlying23
  cases a with
  | none =>
    obtain rfl : n = 0 := by
      by_cases h0 : 0 < n
      · obtain ⟨b, o, e, _⟩ := h.cell 0 h0; cases e
      · omega
    go_enter Try.func12, Try.ntmps12
    go_wp2_with fail
    refine (newAcc_any _ _ _ _ _ _ _ _ _ _).mono ?_
    rintro e w1 ⟨rfl, hb1⟩
    have hb : Below (w.heap.size + 1) (w.alloc (.cells #[.slice none 0 0, .slice none 0 0, .slice none 0 0] 32)) w1 := by simpa using hb1
    have x0 := acc_cell hb 0 (by omega)
    have x1 := acc_cell hb 1 (by omega)
    have x2 := acc_cell hb 2 (by omega)
    have y0 := acc_froz hb 0
    have y1 := acc_froz hb 1
    have y2 := acc_froz hb 2
    have hB : Below w.heap.size w w1 := ((Below.refl _ _).alloc (Nat.le_refl _) _).trans (hb.mono (by omega))
    clear hb1 hb
    go_wp2_with fail
    have hB3 := fun v0 v1 v2 => below3 (o0 := 0) (o1 := 1) (o2 := 2) (v0 := v0) (v1 := v1) (v2 := v2) (Nat.le_refl _) hB
    refine bodyPost_ret (v := .agg #[.slice a1 n1 c1, .slice a2 n2 c2, .slice none 0 0]) (by simp [results, Try.results12, go_sem, x0, x1, x2]) rfl ⟨_, rfl, ⟨_, _, _, _, _, _, _, _, _, rfl, h1.below (hB3 _ _ _), h2.below (hB3 _ _ _), ?_⟩, hB3 _ _ _⟩
    exact ⟨h.len, by omega, fun i hi => by omega⟩
  | some x =>
    go_enter Try.func12, Try.ntmps12
    go_wp2
    go_loopw [16] (fun i wr => ∃ k : Nat, k ≤ n ∧ i = .int .i64 k ∧ (∃ f, wr.rowIs (w.heap.size + 1) 44 (n * 4) f ∧ Laid w (w.heap.size + 1) f A.modes k) ∧ Below (w.heap.size + 1) (w.alloc (.cells #[.slice none 0 0, .slice none 0 0, .slice none 0 0] 32)) wr) (fun i _ => n - (intOf i).toNat)
    case atStart =>
      obtain ⟨f, hf⟩ := rowIs_made4 (w.alloc (.cells #[.slice none 0 0, .slice none 0 0, .slice none 0 0] 32)) (n * 4) 44
      exact ⟨0, by omega, rfl, ⟨f, by simpa using hf, fun j hj => by omega⟩, (Below.refl _ _).alloc (by simp) _⟩
    case round =>
      obtain ⟨k, hk, rfl, ⟨f, hrow, hlaid⟩, hb⟩ := hrel
      have hB : Below w.heap.size w wr := ((Below.refl _ _).alloc (Nat.le_refl _) _).trans (hb.mono (by omega))
      by_cases hlt : k < n
      · obtain ⟨b, o, e, hcell⟩ := h.cell k hlt
        obtain rfl := Option.some.inj e
        obtain ⟨ra, rn, rc, wa, wn, wc, hl⟩ := hcell k hlt
        obtain ⟨q0, q1, q2, q3, _, _, _⟩ := hl.below hB
        have hbd : Below w.heap.size w wr.drew := hB.drew
        have hrowd : wr.drew.rowIs (w.heap.size + 1) 44 (n * 4) f := hrow
        have i1 : (0 : Int) ≤ (k : Int) := by omega
        have i2 : (k : Int) < (n : Int) := by omega
        go_wp2
        go_region_held3 (fun w' => w'.cell? ⟨b, o + k * 4, none⟩ = some (.int .u8 ((ml A.modes k).mode : Nat)) ∧ w'.cell? ⟨b, o + k * 4 + 1, none⟩ = some (.bool (ml A.modes k).whole) ∧ w'.cell? ⟨b, o + k * 4 + 2, none⟩ = some (.slice ra rn rc) ∧ w'.cell? ⟨b, o + k * 4 + 3, none⟩ = some (.slice wa wn wc) ∧ Below w.heap.size w w')
          ((refine four_of hl ?_; first | assumption | (refine below4g (Nat.le_succ _) ?_; assumption)))
          (first
            | (go_at_call 26; refine (newML_any _ _ _ _ _ _ _ _ _).mono ?_; rintro e w1 ⟨rfl, hb1⟩; have hx1 := below_step (w := w) hb1 (by assumption); have hr1 := row_step (N := w.heap.size + 1) (t := 44) (n := n * 4) (f := f) hb1 (by assumption); have x0 := hr1.cell (i := k * 4) (by omega); have x1 := hr1.cell (i := k * 4 + 1) (by omega); have x2 := hr1.cell (i := k * 4 + 2) (by omega); have x3 := hr1.cell (i := k * 4 + 3) (by omega); have y0 := hr1.frozen (k * 4); have y1 := hr1.frozen (k * 4 + 1); have y2 := hr1.frozen (k * 4 + 2); have y3 := hr1.frozen (k * 4 + 3)))
        go_wp2
        go_roundw
        case rel =>
          obtain ⟨f', hf', hl'⟩ := laid_setF (ra := ra) (rn := rn) (rc := rc) (wa := wa) (wn := wn) (wc := wc) hr1 hlaid hl.hr hl.hw (hl.hr.away (by omega)) (hl.hw.away (by omega)) hl.lt
          have hz : w.heap.size + 1 < wr.heap.size := hrow.lt
          exact ⟨k + 1, by omega, by go_num, ⟨f', hf', hl'⟩, below4g (Nat.le_refl _) (hb.drew.trans (hb1.mono (by simp; omega)))⟩
        case measure => simp [intOf]; omega
      · obtain rfl : k = n := by omega
        go_wp2_with fail
        refine (newAcc_any _ _ _ _ _ _ _ _ _ _).mono ?_
        rintro e w1 ⟨rfl, hb1⟩
        have hz : w.heap.size + 1 < wr.heap.size := hrow.lt
        have hb' := hb.trans (hb1.mono (by omega))
        have hr1 := row_step hb1 hrow
        have x0 := acc_cell hb' 0 (by omega)
        have x1 := acc_cell hb' 1 (by omega)
        have x2 := acc_cell hb' 2 (by omega)
        have y0 := acc_froz hb' 0
        have y1 := acc_froz hb' 1
        have y2 := acc_froz hb' 2
        have hB1 : Below w.heap.size w w1 := below_step hb1 hB
        clear hb1 hb hb' hrow
        go_wp2_with fail
        have hB3 := fun v0 v1 v2 => below3 (o0 := 0) (o1 := 1) (o2 := 2) (v0 := v0) (v1 := v1) (v2 := v2) (Nat.le_refl _) hB1
        refine bodyPost_ret (v := .agg #[.slice a1 n1 c1, .slice a2 n2 c2, .slice (some ⟨w.heap.size + 1, 0, none⟩) k k]) (by simp [results, Try.results12, go_sem, x0, x1, x2]) rfl ⟨_, rfl, ⟨_, _, _, _, _, _, _, _, _, rfl, h1.below (hB3 _ _ _), h2.below (hB3 _ _ _), ?_⟩, hB3 _ _ _⟩
        exact Ms.of_laid (((hr1.setOther (by simp) _).setOther (by simp) _).setOther (by simp) _) (hlaid.below (hB3 _ _ _)) h.len hn
end Go.Proofs.Qxb6605213a
