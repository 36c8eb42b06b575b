import Derived.Test.Qxb6602598aDp
namespace Go.Proofs.Qxb6602598a
open Go.RowKit Go.Deep

/-- The world behind the code's own array. -/
def Wl (w1 : World) (bs : List Nat) : World := (w1.alloc (.cells #[.int .u8 (bz bs 0 : Nat), .int .u8 (bz bs 1 : Nat), .int .u8 (bz bs 2 : Nat), .int .u8 (bz bs 3 : Nat)] 27)).drew

theorem wl_size (w1 : World) (bs : List Nat) : (Wl w1 bs).heap.size = w1.heap.size + 1 := by simp [Wl, go_sem]

theorem newW {w1 u : World} {bs : List Nat} (h : Below (w1.heap.size + 1) (Wl w1 bs) u) : Below w1.heap.size w1 u := by
  rw [← wl_size w1 bs] at h
  exact (new4 h).2.2.2.2

theorem loc4 {w1 u : World} {bs : List Nat} (h : Below (w1.heap.size + 1) (Wl w1 bs) u) :
    u.cell? ⟨w1.heap.size, 0, none⟩ = some (.int .u8 (bz bs 0 : Nat)) ∧ u.cell? ⟨w1.heap.size, 1, none⟩ = some (.int .u8 (bz bs 1 : Nat)) ∧ u.cell? ⟨w1.heap.size, 2, none⟩ = some (.int .u8 (bz bs 2 : Nat)) ∧ u.cell? ⟨w1.heap.size, 3, none⟩ = some (.int .u8 (bz bs 3 : Nat)) ∧ Below (w1.heap.size + 1) (Wl w1 bs) u := by
  have h' := h
  rw [← wl_size w1 bs] at h'
  have k := new4 h'
  exact ⟨k.1, k.2.1, k.2.2.1, k.2.2.2.1, h⟩

theorem stepW {w1 W u : World} {bs : List Nat} (hb : Below W.heap.size W u) (h : Below (w1.heap.size + 1) (Wl w1 bs) W) : Below (w1.heap.size + 1) (Wl w1 bs) u :=
  h.trans (hb.mono (by have := h.size; rw [wl_size] at this; exact this))

/-- The first k codes are not the bytes. -/
def Miss (k b0 b1 b2 b3 : Nat) : Prop := ∀ j, j < k → ¬ hit j b0 b1 b2 b3

def Fnd (fb : Bool) (k b0 b1 b2 b3 : Nat) : Prop := (fb = true → ∃ j, j < 19 ∧ hit j b0 b1 b2 b3) ∧ (fb = false → Miss k b0 b1 b2 b3)

set_option maxHeartbeats 8000000 in
theorem law5 (a : Option Addr) (n c : Nat) (bs : List Nat) (w : World) (h : Bz w a n bs) :
    Calls Try.prog 5 #[.slice a n c] w fun e w' => e = .returned (.bool true) ∧ Below w.heap.size w w' := by
  have mx := h.max
  by_cases hn : 1048576 < n
  · have k : (1048576 : Int) < (n : Int) := by omega
    go_enter Try.func5, Try.ntmps5
    go_wp2_with fail
    refine (zz11 a _ c _ mx).mono ?_
    rintro e w' ⟨⟨r, rfl⟩, rfl⟩
    cases r
    · go_wp2_with fail
      go_ret
      exact ⟨rfl, Below.refl _ _⟩
    · go_wp2_with fail
      go_ret
      exact ⟨rfl, Below.refl _ _⟩
  have kn : ¬ (1048576 : Int) < (n : Int) := by omega
  by_cases h4 : n = 4
  · subst h4
    clear kn hn
    have F0 := h.fit 0; have F1 := h.fit 1; have F2 := h.fit 2; have F3 := h.fit 3
    by_cases d1 : (bz bs 3 : Int) < 48
    · clear F0 F1 F2 F3
      go_enter Try.func5, Try.ntmps5
      go_wp2_with fail
      refine (zz11 a _ c _ mx).mono ?_
      rintro e w' ⟨⟨r, rfl⟩, rfl⟩
      cases r
      · go_wp2_with fail
        go_ret
        exact ⟨rfl, Below.refl _ _⟩
      · go_wp2_with fail
        refine (clone_any a 4 c bs _ h (by omega)).mono ?_
        rintro e w1 ⟨a1, c1, rfl, hb, g1⟩
        obtain ⟨b, o, rfl, hc⟩ := hb.cell 0 (by omega)
        have q0 : w1.cell? ⟨b, o, none⟩ = some (.int .u8 (bz bs 0 : Nat)) := by simpa using hc 0 (by omega)
        have q1 := hc 1 (by omega)
        have q2 := hc 2 (by omega)
        have q3 := hc 3 (by omega)
        clear hc
        go_wp2_with fail
        go_ret
        exact ⟨rfl, g1⟩
    by_cases d2 : 57 < (bz bs 3 : Int)
    · clear F0 F1 F2 F3
      go_enter Try.func5, Try.ntmps5
      go_wp2_with fail
      refine (zz11 a _ c _ mx).mono ?_
      rintro e w' ⟨⟨r, rfl⟩, rfl⟩
      cases r
      · go_wp2_with fail
        go_ret
        exact ⟨rfl, Below.refl _ _⟩
      · go_wp2_with fail
        refine (clone_any a 4 c bs _ h (by omega)).mono ?_
        rintro e w1 ⟨a1, c1, rfl, hb, g1⟩
        obtain ⟨b, o, rfl, hc⟩ := hb.cell 0 (by omega)
        have q0 : w1.cell? ⟨b, o, none⟩ = some (.int .u8 (bz bs 0 : Nat)) := by simpa using hc 0 (by omega)
        have q1 := hc 1 (by omega)
        have q2 := hc 2 (by omega)
        have q3 := hc 3 (by omega)
        clear hc
        go_wp2_with fail
        go_ret
        exact ⟨rfl, g1⟩
    have HF : Hid (bz bs 0 < 256 ∧ bz bs 1 < 256 ∧ bz bs 2 < 256 ∧ 48 ≤ bz bs 3 ∧ bz bs 3 ≤ 57) := ⟨F0, F1, F2, by omega, by omega⟩
    clear F0 F1 F2 F3
    go_enter Try.func5, Try.ntmps5
    go_wp2_with fail
    refine (zz11 a _ c _ mx).mono ?_
    rintro e w' ⟨⟨r, rfl⟩, rfl⟩
    cases r
    · go_wp2_with fail
      go_ret
      exact ⟨rfl, Below.refl _ _⟩
    · go_wp2_with fail
      refine (clone_any a 4 c bs _ h (by omega)).mono ?_
      rintro e w1 ⟨a1, c1, rfl, hb, g1⟩
      obtain ⟨b, o, rfl, hc⟩ := hb.cell 0 (by omega)
      have q0 : w1.cell? ⟨b, o, none⟩ = some (.int .u8 (bz bs 0 : Nat)) := by simpa using hc 0 (by omega)
      have q1 := hc 1 (by omega)
      have q2 := hc 2 (by omega)
      have q3 := hc 3 (by omega)
      clear hc
      go_wp2_with fail
      go_region_held3 (fun w' => w'.cell? ⟨b, o, none⟩ = some (.int .u8 (bz bs 0 : Nat)) ∧ w'.cell? ⟨b, o + 1, none⟩ = some (.int .u8 (bz bs 1 : Nat)) ∧ w'.cell? ⟨b, o + 2, none⟩ = some (.int .u8 (bz bs 2 : Nat)) ∧ w'.cell? ⟨b, o + 3, none⟩ = some (.int .u8 (bz bs 3 : Nat)) ∧ Below w1.heap.size w1 w')
        ((refine four4 q0 q1 q2 q3 ?_; first | assumption | exact (Below.refl _ _).drew | exact ((Below.refl _ _).alloc (Nat.le_refl _) _).drew | exact (below4n (Below.refl _ _)).drew | exact below4n (Below.refl _ _)))
        (fail)
      go_wp2_with fail
      go_loopw [3, 5] (fun f i wr => ∃ (k : Nat) (fb : Bool), k ≤ 19 ∧ i = .int .i64 k ∧ f = .bool fb ∧ Fnd fb k (bz bs 0) (bz bs 1) (bz bs 2) (bz bs 3) ∧ Below (w1.heap.size + 1) (Wl w1 bs) wr) (fun _ i _ => 19 - (intOf i).toNat)
      case atStart => exact ⟨0, false, by omega, rfl, rfl, ⟨fun e => (by cases e), fun _ j hj => by omega⟩, Below.refl _ (Wl w1 bs)⟩
      case round =>
        obtain ⟨k, fb, hk, rfl, rfl, hmiss, hbl⟩ := hrel
        by_cases hlt : k < 19
        · have hlt' : (k : Int) < 19 := by omega
          by_cases hm : cmpV (cd k).1 (cd k).2.1 (cd k).2.2.1 (cd k).2.2.2 (bz bs 0 : Nat) (bz bs 1 : Nat) (bz bs 2 : Nat) (bz bs 3 : Nat) = 0
          · clear hmiss
            go_wp2_with fail
            go_region_held3 (fun w' => w'.cell? ⟨w1.heap.size, 0, none⟩ = some (.int .u8 (bz bs 0 : Nat)) ∧ w'.cell? ⟨w1.heap.size, 1, none⟩ = some (.int .u8 (bz bs 1 : Nat)) ∧ w'.cell? ⟨w1.heap.size, 2, none⟩ = some (.int .u8 (bz bs 2 : Nat)) ∧ w'.cell? ⟨w1.heap.size, 3, none⟩ = some (.int .u8 (bz bs 3 : Nat)) ∧ Below (w1.heap.size + 1) (Wl w1 bs) w')
              ((refine loc4 ?_; first | assumption | exact Below.drew (by assumption)))
              (first | (go_at_call 13; refine (dc_any k hlt _).mono ?_; rintro e u1 ⟨rfl, hu1⟩; have hx1 := stepW (w1 := w1) (bs := bs) hu1 (by first | assumption | exact Below.drew (by assumption))) | (go_at_call 12; refine (cmp_any (cd k).1 (cd k).2.1 (cd k).2.2.1 (cd k).2.2.2 (bz bs 0 : Nat) (bz bs 1 : Nat) (bz bs 2 : Nat) (bz bs 3 : Nat) _).mono ?_; rintro e u2 ⟨rfl, hu2⟩; have hx2 := stepW (w1 := w1) (bs := bs) hu2 (by first | assumption | exact Below.drew (by assumption))))
            go_wp2_with fail
            go_roundw
            case rel => exact ⟨k + 1, true, by omega, by go_num, rfl, ⟨fun _ => ⟨k, hlt, hm⟩, fun e => by cases e⟩, hx2⟩
            case measure => simp [intOf]; omega
          · have hm' : (cmpV (cd k).1 (cd k).2.1 (cd k).2.2.1 (cd k).2.2.2 (bz bs 0 : Nat) (bz bs 1 : Nat) (bz bs 2 : Nat) (bz bs 3 : Nat) == 0) = false := by simpa using hm
            go_wp2_with fail
            go_region_held3 (fun w' => w'.cell? ⟨w1.heap.size, 0, none⟩ = some (.int .u8 (bz bs 0 : Nat)) ∧ w'.cell? ⟨w1.heap.size, 1, none⟩ = some (.int .u8 (bz bs 1 : Nat)) ∧ w'.cell? ⟨w1.heap.size, 2, none⟩ = some (.int .u8 (bz bs 2 : Nat)) ∧ w'.cell? ⟨w1.heap.size, 3, none⟩ = some (.int .u8 (bz bs 3 : Nat)) ∧ Below (w1.heap.size + 1) (Wl w1 bs) w')
              ((refine loc4 ?_; first | assumption | exact Below.drew (by assumption)))
              (first | (go_at_call 13; refine (dc_any k hlt _).mono ?_; rintro e u1 ⟨rfl, hu1⟩; have hx1 := stepW (w1 := w1) (bs := bs) hu1 (by first | assumption | exact Below.drew (by assumption))) | (go_at_call 12; refine (cmp_any (cd k).1 (cd k).2.1 (cd k).2.2.1 (cd k).2.2.2 (bz bs 0 : Nat) (bz bs 1 : Nat) (bz bs 2 : Nat) (bz bs 3 : Nat) _).mono ?_; rintro e u2 ⟨rfl, hu2⟩; have hx2 := stepW (w1 := w1) (bs := bs) hu2 (by first | assumption | exact Below.drew (by assumption))))
            go_wp2_with fail
            go_roundw
            case rel =>
              refine ⟨k + 1, fb, by omega, by go_num, rfl, ⟨hmiss.1, fun e' j hj => ?_⟩, hx2⟩
              by_cases e : j = k
              · subst e; exact hm
              · exact hmiss.2 e' j (by omega)
            case measure => simp [intOf]; omega
        · obtain rfl : k = 19 := by omega
          have RD : Hid (disB 4 bs = fb) := by
            show disB 4 bs = fb
            unfold disB
            rw [if_pos rfl]
            obtain ⟨F0, F1, F2, F3⟩ := HF.out
            cases fb
            · exact miss_dis F0 F1 F2 F3 (hmiss.2 rfl)
            · obtain ⟨j, hj, hm⟩ := hmiss.1 rfl
              exact hit_dis hj hm
          clear hmiss hk hlt
          go_wp2_with fail
          refine (zdis_any _ 4 c1 bs _ (hb.below (newW hbl))).mono ?_
          rintro e u3 ⟨rfl, rfl⟩
          go_wp2_with fail
          go_ret
          exact ⟨ret_bool (by have := RD.out; simp [this]), below_step (newW hbl) g1⟩
  have h4' : ¬ (n : Int) = 4 := by omega
  have h4'' : ((n : Int) == 4) = false := by simpa using h4'
  have RD : Hid (disB n bs = false) := by
    show disB n bs = false
    unfold disB
    rw [if_neg h4]
  have hl : n ≤ 1048576 := by omega
  go_enter Try.func5, Try.ntmps5
  go_wp2_with fail
  refine (zz11 a _ c _ mx).mono ?_
  rintro e w' ⟨⟨r, rfl⟩, rfl⟩
  cases r
  · go_wp2_with fail
    go_ret
    exact ⟨rfl, Below.refl _ _⟩
  · go_wp2_with fail
    refine (clone_any a n c bs _ h hl).mono ?_
    rintro e w1 ⟨a1, c1, rfl, hb, g1⟩
    go_wp2_with fail
    refine (zdis_any a1 n c1 bs _ hb).mono ?_
    rintro e u3 ⟨rfl, rfl⟩
    go_wp2_with fail
    go_ret
    exact ⟨ret_bool (by have := RD.out; simp [this]), g1⟩
end Go.Proofs.Qxb6602598a
