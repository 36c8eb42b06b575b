import Derived.Test.Qxb6605270aDoorJ0
import Derived.Laws.MakeOwn
namespace Go.Proofs.Qxb6605270aDoor
open Go.RowKit Go.Shelf Go.Deep

theorem cat2 (x y : Array UInt8) : (⟨x⟩ : ByteArray) ++ ⟨y⟩ = ⟨x ++ y⟩ := by
  apply ByteArray.ext
  simp [ByteArray.data_append]

set_option maxRecDepth 100000 in
set_option maxHeartbeats 16000000 in
theorem law4 (a b : Option Addr) (n m c d : Nat) (xs ys : List Int) (w : World) (h : Iz w a n xs) (k : Iz w b m ys) (hT : Lib.TabBelow Tryd.prog w.heap.size w "internal/strconv.uint64pow10" .u64 Lib.pow10Tab) :
    Calls Tryd.prog 4 #[.slice a n c, .slice b m d] w fun e w' => e = .returned (.bool true) ∧ Below w.heap.size w w' := by
  obtain ⟨i0, hi, hz0, hz1, hz2⟩ := info_parts Tryd.infoInt
  have mx1 := h.max
  have mx2 := k.max
  by_cases g1 : (65536 : Int) < (n : Int)
  · go_enter Tryd.func4, Tryd.ntmps4
    go_wp2_with fail
    refine (zz9 a b _ _ c d _ h.max k.max).mono ?_
    rintro e w' ⟨⟨r, rfl⟩, rfl⟩
    cases r
    · go_wp2_with fail
      go_ret
      exact ⟨rfl, Below.refl _ _⟩
    · go_wp2_with fail
      go_ret
      exact ⟨rfl, Below.refl _ _⟩
  by_cases g2 : (65536 : Int) < (m : Int)
  · go_enter Tryd.func4, Tryd.ntmps4
    go_wp2_with fail
    refine (zz9 a b _ _ c d _ h.max k.max).mono ?_
    rintro e w' ⟨⟨r, rfl⟩, rfl⟩
    cases r
    · go_wp2_with fail
      go_ret
      exact ⟨rfl, Below.refl _ _⟩
    · go_wp2_with fail
      go_ret
      exact ⟨rfl, Below.refl _ _⟩
  by_cases hn : n = 0
  · subst hn
    clear g1
    by_cases hm : m = 0
    · subst hm
      clear g2
      go_enter Tryd.func4, Tryd.ntmps4
      go_wp2_with fail
      refine (zz9 a b _ _ c d _ h.max k.max).mono ?_
      rintro e w' ⟨⟨r, rfl⟩, rfl⟩
      cases r
      · go_wp2_with fail
        go_ret
        exact ⟨rfl, Below.refl _ _⟩
      · go_wp2_with fail
        go_quiet (fail)
        have BEL : Below w.heap.size w (w.drewN nq) := below_drewN (Below.refl _ _) _
        generalize w.drewN nq = W at BEL ⊢
        go_wp2_with fail
        refine (clone_any a 0 c xs _ (h.below BEL) (by omega)).mono ?_
        rintro e w1 ⟨a1, c1, rfl, z1, hb1⟩
        have B1 := below_step hb1 BEL
        go_wp2_with fail
        refine (clone_any b 0 d ys _ (k.below B1) (by omega)).mono ?_
        rintro e w2 ⟨a2, c2, rfl, z2, hb2⟩
        have B2 := below_step hb2 B1
        have z1b := z1.below hb2
        obtain ⟨w3, hrun, own3, grow3⟩ := run_make_own (P := Tryd.prog) w2 w2.heap.size 22 3 i0 (.int .i64 0) 1 Tryd.underlying22 hi hz0 hz1 .i64 .i64 0 (by rw [hz2]; omega) (by unfold maxLen; omega) (Nat.le_refl _)
        rw [show ((0 : Nat) : Int) = 0 from rfl] at hrun
        have G3 : Below w2.heap.size w2 w3 := (Below.refl _ _).grown grow3 (Nat.le_refl _) (fun _ e => by cases e)
        clear grow3
        go_wp2_with (first | (at_builtin; refine wpList_app0 rfl _ _ rfl w2.heap.size 0 0 a1 c1 (Nat.zero_le _) rfl rfl ?_) | (at_builtin; refine wpList_app0 rfl _ _ rfl w2.heap.size 0 0 a2 c2 (Nat.zero_le _) rfl rfl ?_))
        have ZJ : Iz w3 (some ⟨w2.heap.size, 0, none⟩) 0 xs := ⟨h.len, by omega, h.rng, fun i hi => by omega⟩
        have B5 : Below w.heap.size w w3 := below_step G3 B2
        go_wp2_with fail
        refine (pl_any (some ⟨w2.heap.size, 0, none⟩) 0 0 xs _ ZJ (by omega) (tab_at hT B5)).mono ?_
        rintro e w6 ⟨he, hb6⟩
        obtain ⟨s7, h7⟩ : ∃ s, s = S xs 0 := ⟨_, rfl⟩
        obtain ⟨s8, h8⟩ : ∃ s, s = S ys 0 := ⟨_, rfl⟩
        have l7 : s7.length ≤ 1441792 := by have := S_len h.rng _ 0 (Nat.zero_add _); have := h.len; rw [h7]; omega
        have l8 : s8.length ≤ 1441792 := by have := S_len k.rng _ 0 (Nat.zero_add _); have := k.len; rw [h8]; omega
        have H7 := hide h7
        have H8 := hide h8
        have h7n : s7 = [] := by rw [h7]; exact S_end (by have := h.len; omega)
        have h8n : s8 = [] := by rw [h8]; exact S_end (by have := k.len; omega)
        rw [← h7] at he
        rw [h7n] at he
        clear h7 h8
        have H7N := hide h7n; clear h7n
        have H8N := hide h8n; clear h8n
        subst he
        have B6 := below_step hb6 B5
        have G6 : Below w2.heap.size w2 w6 := below_step hb6 G3
        go_wp2_with fail
        refine (pl_any _ 0 c1 xs _ (z1b.below G6) (by omega) (tab_at hT B6)).mono ?_
        rintro e w7 ⟨he, hb7⟩
        rw [← H7.out] at he
        rw [H7N.out] at he
        subst he
        have B7 := below_step hb7 B6
        have G7 := below_step hb7 G6
        go_wp2_with fail
        refine (pl_any _ 0 c2 ys _ (z2.below G7) (by omega) (tab_at hT B7)).mono ?_
        rintro e w8 ⟨he, hb8⟩
        rw [← H8.out] at he
        rw [H8N.out] at he
        subst he
        have B8 := below_step hb8 B7
        go_wp2_with fail
        go_ret
        exact ⟨ret_bool (by first | rfl | simp), B8⟩
    · have m1 : (0 : Int) < (m : Int) := by omega
      have m1n : 0 < m := by omega
      go_enter Tryd.func4, Tryd.ntmps4
      go_wp2_with fail
      refine (zz9 a b _ _ c d _ h.max k.max).mono ?_
      rintro e w' ⟨⟨r, rfl⟩, rfl⟩
      cases r
      · go_wp2_with fail
        go_ret
        exact ⟨rfl, Below.refl _ _⟩
      · go_wp2_with fail
        go_quiet (fail)
        have BEL : Below w.heap.size w (w.drewN nq) := below_drewN (Below.refl _ _) _
        generalize w.drewN nq = W at BEL ⊢
        go_wp2_with fail
        refine (clone_any a 0 c xs _ (h.below BEL) (by omega)).mono ?_
        rintro e w1 ⟨a1, c1, rfl, z1, hb1⟩
        have B1 := below_step hb1 BEL
        go_wp2_with fail
        refine (clone_any b m d ys _ (k.below B1) (by omega)).mono ?_
        rintro e w2 ⟨a2, c2, rfl, z2, hb2⟩
        have B2 := below_step hb2 B1
        have z1b := z1.below hb2
        obtain ⟨w3, hrun, own3, grow3⟩ := run_make_own (P := Tryd.prog) w2 w2.heap.size 22 3 i0 (.int .i64 0) 1 Tryd.underlying22 hi hz0 hz1 .i64 .i64 m (by rw [hz2]; omega) (by unfold maxLen; omega) (Nat.le_refl _)
        have G3 : Below w2.heap.size w2 w3 := (Below.refl _ _).grown grow3 (Nat.le_refl _) (fun _ e => by cases e)
        clear grow3
        obtain ⟨b2, o2, e2, _⟩ := z2.cell 0 (by omega)
        subst e2
        have src2 := (z2.below G3).src
        go_wp2_with (first | (at_builtin; refine wpList_app0 rfl _ _ rfl w2.heap.size 0 m a1 c1 (Nat.zero_le _) rfl rfl ?_) | (at_builtin; refine wpList_append_lies _ rfl _ _ _ rfl w2.heap.size 3 i0 (.int .i64 0) 1 8 Tryd.underlying22 hi hz0 hz1 hz2 rfl (by omega) (.slice (some ⟨w2.heap.size, 0, none⟩) 0 m) 0 ([] : List Value) rfl (by exact own3) ⟨b2, o2, none⟩ m c2 (ics ys m) rfl (by rw [ics_len]; omega) (by exact src2) (by exact ics_one _ _) (by omega) (by unfold maxLen; omega) (by omega) (by exact G3.size) w3.heap.size rfl ?_))
        intro g5 cap5 w5 own5 grow5 hat5 hlt5
        have G5 : Below w2.heap.size w2 w5 := G3.grown grow5 G3.size (fun k hk => (own3.lt k hk).1)
        clear grow5 hat5 src2
        have ZJ : Iz w5 (some ⟨g5, 0, none⟩) m ys := Iz.own k.len (by omega) k.rng own5
        have B5 : Below w.heap.size w w5 := below_step G5 B2
        go_wp2_with fail
        refine (pl_any (some ⟨g5, 0, none⟩) m cap5 ys _ ZJ (by omega) (tab_at hT B5)).mono ?_
        rintro e w6 ⟨he, hb6⟩
        obtain ⟨s7, h7⟩ : ∃ s, s = S xs 0 := ⟨_, rfl⟩
        obtain ⟨s8, h8⟩ : ∃ s, s = S ys 0 := ⟨_, rfl⟩
        have l7 : s7.length ≤ 1441792 := by have := S_len h.rng _ 0 (Nat.zero_add _); have := h.len; rw [h7]; omega
        have l8 : s8.length ≤ 1441792 := by have := S_len k.rng _ 0 (Nat.zero_add _); have := k.len; rw [h8]; omega
        have H7 := hide h7
        have H8 := hide h8
        have h7n : s7 = [] := by rw [h7]; exact S_end (by have := h.len; omega)
        rw [← h8] at he
        clear h7 h8
        have H7N := hide h7n; clear h7n
        subst he
        have B6 := below_step hb6 B5
        have G6 : Below w2.heap.size w2 w6 := below_step hb6 G5
        go_wp2_with fail
        refine (pl_any _ 0 c1 xs _ (z1b.below G6) (by omega) (tab_at hT B6)).mono ?_
        rintro e w7 ⟨he, hb7⟩
        rw [← H7.out] at he
        rw [H7N.out] at he
        subst he
        have B7 := below_step hb7 B6
        have G7 := below_step hb7 G6
        go_wp2_with fail
        refine (pl_any _ m c2 ys _ (z2.below G7) (by omega) (tab_at hT B7)).mono ?_
        rintro e w8 ⟨he, hb8⟩
        rw [← H8.out] at he
        subst he
        have B8 := below_step hb8 B7
        go_wp2_with fail
        go_ret
        exact ⟨ret_bool (by first | rfl | simp), B8⟩
  have n1 : (0 : Int) < (n : Int) := by omega
  have n1n : 0 < n := by omega
  have n2 : ((n : Int) == 0) = false := by simp; omega
  by_cases hm : m = 0
  · subst hm
    clear g2
    go_enter Tryd.func4, Tryd.ntmps4
    go_wp2_with fail
    refine (zz9 a b _ _ c d _ h.max k.max).mono ?_
    rintro e w' ⟨⟨r, rfl⟩, rfl⟩
    cases r
    · go_wp2_with fail
      go_ret
      exact ⟨rfl, Below.refl _ _⟩
    · go_wp2_with fail
      go_quiet (fail)
      have BEL : Below w.heap.size w (w.drewN nq) := below_drewN (Below.refl _ _) _
      generalize w.drewN nq = W at BEL ⊢
      go_wp2_with fail
      refine (clone_any a n c xs _ (h.below BEL) (by omega)).mono ?_
      rintro e w1 ⟨a1, c1, rfl, z1, hb1⟩
      have B1 := below_step hb1 BEL
      go_wp2_with fail
      refine (clone_any b 0 d ys _ (k.below B1) (by omega)).mono ?_
      rintro e w2 ⟨a2, c2, rfl, z2, hb2⟩
      have B2 := below_step hb2 B1
      have z1b := z1.below hb2
      obtain ⟨w3, hrun, own3, grow3⟩ := run_make_own (P := Tryd.prog) w2 w2.heap.size 22 3 i0 (.int .i64 0) 1 Tryd.underlying22 hi hz0 hz1 .i64 .i64 n (by rw [hz2]; omega) (by unfold maxLen; omega) (Nat.le_refl _)
      have G3 : Below w2.heap.size w2 w3 := (Below.refl _ _).grown grow3 (Nat.le_refl _) (fun _ e => by cases e)
      clear grow3
      obtain ⟨b1, o1, e1, _⟩ := z1b.cell 0 (by omega)
      subst e1
      have src1 := (z1b.below G3).src
      go_wp2_with (at_builtin; refine wpList_append_lies _ rfl _ _ _ rfl w2.heap.size 3 i0 (.int .i64 0) 1 8 Tryd.underlying22 hi hz0 hz1 hz2 rfl (by omega) (.slice (some ⟨w2.heap.size, 0, none⟩) 0 n) 0 [] rfl (by exact own3) ⟨b1, o1, none⟩ n c1 (ics xs n) rfl (by rw [ics_len]; omega) (by exact src1) (by exact ics_one _ _) (by omega) (by unfold maxLen; omega) (by omega) (by exact G3.size) w3.heap.size rfl ?_)
      intro g4 cap4 w4 own4 grow4 hat4 hlt4
      have G4 : Below w2.heap.size w2 w4 := G3.grown grow4 G3.size (fun k hk => (own3.lt k hk).1)
      clear grow4 hat4 own3 src1 hrun
      go_wp2_with (at_builtin; refine wpList_app0 rfl _ _ rfl g4 n cap4 a2 c2 (own_room own4) rfl rfl ?_)
      have ZJ : Iz w4 (some ⟨g4, 0, none⟩) n xs := Iz.own h.len (by omega) h.rng own4
      have B5 : Below w.heap.size w w4 := below_step G4 B2
      go_wp2_with fail
      refine (pl_any (some ⟨g4, 0, none⟩) n cap4 xs _ ZJ (by omega) (tab_at hT B5)).mono ?_
      rintro e w6 ⟨he, hb6⟩
      obtain ⟨s7, h7⟩ : ∃ s, s = S xs 0 := ⟨_, rfl⟩
      obtain ⟨s8, h8⟩ : ∃ s, s = S ys 0 := ⟨_, rfl⟩
      have l7 : s7.length ≤ 1441792 := by have := S_len h.rng _ 0 (Nat.zero_add _); have := h.len; rw [h7]; omega
      have l8 : s8.length ≤ 1441792 := by have := S_len k.rng _ 0 (Nat.zero_add _); have := k.len; rw [h8]; omega
      have H7 := hide h7
      have H8 := hide h8
      have h8n : s8 = [] := by rw [h8]; exact S_end (by have := k.len; omega)
      rw [← h7] at he
      clear h7 h8
      have H8N := hide h8n; clear h8n
      subst he
      have B6 := below_step hb6 B5
      have G6 : Below w2.heap.size w2 w6 := below_step hb6 G4
      go_wp2_with fail
      refine (pl_any _ n c1 xs _ (z1b.below G6) (by omega) (tab_at hT B6)).mono ?_
      rintro e w7 ⟨he, hb7⟩
      rw [← H7.out] at he
      subst he
      have B7 := below_step hb7 B6
      have G7 := below_step hb7 G6
      go_wp2_with fail
      refine (pl_any _ 0 c2 ys _ (z2.below G7) (by omega) (tab_at hT B7)).mono ?_
      rintro e w8 ⟨he, hb8⟩
      rw [← H8.out] at he
      rw [H8N.out] at he
      subst he
      have B8 := below_step hb8 B7
      go_wp2_with fail
      go_ret
      exact ⟨ret_bool (by first | rfl | simp), B8⟩
  have m1 : (0 : Int) < (m : Int) := by omega
  have m1n : 0 < m := by omega
  have m2 : ((m : Int) == 0) = false := by simp; omega
  obtain ⟨ab, ao, rfl, ca⟩ := h.cell 0 n1n
  obtain ⟨bb, bo, rfl, cb⟩ := k.cell 0 m1n
  have p1 := ca (n - 1) (by omega)
  have p2 : w.cell? ⟨bb, bo, none⟩ = some (.int .i64 (pz ys 0)) := cb 0 m1n
  clear ca cb
  have j1 : (0 : Int) ≤ (n : Int) - 1 := by omega
  have j2 : (n : Int) - 1 < (n : Int) := by omega
  by_cases ht : pz ys 0 = wrap64 (pz xs (n - 1) + 1)
  · have e1 : (pz ys 0 == wrap64 (pz xs (n - 1) + 1)) = true := beq_iff_eq.2 ht
    clear ht
    go_enter Tryd.func4, Tryd.ntmps4
    go_wp2_with fail
    refine (zz9 _ _ _ _ c d _ h.max k.max).mono ?_
    rintro e w' ⟨⟨r, rfl⟩, rfl⟩
    cases r
    · go_wp2_with fail
      go_ret
      exact ⟨rfl, Below.refl _ _⟩
    · go_wp2_with fail
      go_quiet (fail)
      go_wp2_with fail
      go_ret
      exact ⟨rfl, below_drewN (Below.refl _ _) _⟩
  have e1 : (pz ys 0 == wrap64 (pz xs (n - 1) + 1)) = false := beq_eq_false_iff_ne.2 ht
  have HNE : Hid (¬ pz ys 0 = wrap64 (pz xs (xs.length - 1) + 1)) := by
    show ¬ _
    rw [h.len]; exact ht
  clear ht
  go_enter Tryd.func4, Tryd.ntmps4
  go_wp2_with fail
  refine (zz9 _ _ _ _ c d _ h.max k.max).mono ?_
  rintro e w' ⟨⟨r, rfl⟩, rfl⟩
  cases r
  · go_wp2_with fail
    go_ret
    exact ⟨rfl, Below.refl _ _⟩
  · go_wp2_with fail
    go_quiet (fail)
    have BEL : Below w.heap.size w (w.drewN nq) := below_drewN (Below.refl _ _) _
    generalize w.drewN nq = W at BEL ⊢
    go_wp2_with fail
    refine (clone_any (some ⟨ab, ao, none⟩) n c xs _ (h.below BEL) (by omega)).mono ?_
    rintro e w1 ⟨a1, c1, rfl, z1, hb1⟩
    have B1 := below_step hb1 BEL
    go_wp2_with fail
    refine (clone_any (some ⟨bb, bo, none⟩) m d ys _ (k.below B1) (by omega)).mono ?_
    rintro e w2 ⟨a2, c2, rfl, z2, hb2⟩
    have B2 := below_step hb2 B1
    have z1b := z1.below hb2
    obtain ⟨w3, hrun, own3, grow3⟩ := run_make_own (P := Tryd.prog) w2 w2.heap.size 22 3 i0 (.int .i64 0) 1 Tryd.underlying22 hi hz0 hz1 .i64 .i64 (n + m) (by rw [hz2]; omega) (by unfold maxLen; omega) (Nat.le_refl _)
    rw [Int.natCast_add] at hrun
    have G3 : Below w2.heap.size w2 w3 := (Below.refl _ _).grown grow3 (Nat.le_refl _) (fun _ e => by cases e)
    clear grow3
    obtain ⟨b1, o1, e1, _⟩ := z1b.cell 0 (by omega)
    subst e1
    have src1 := (z1b.below G3).src
    go_wp2_with (at_builtin; refine wpList_append_lies _ rfl _ _ _ rfl w2.heap.size 3 i0 (.int .i64 0) 1 8 Tryd.underlying22 hi hz0 hz1 hz2 rfl (by omega) (.slice (some ⟨w2.heap.size, 0, none⟩) 0 (n + m)) 0 [] rfl (by exact own3) ⟨b1, o1, none⟩ n c1 (ics xs n) rfl (by rw [ics_len]; omega) (by exact src1) (by exact ics_one _ _) (by omega) (by unfold maxLen; omega) (by omega) (by exact G3.size) w3.heap.size rfl ?_)
    intro g4 cap4 w4 own4 grow4 hat4 hlt4
    have G4 : Below w2.heap.size w2 w4 := G3.grown grow4 G3.size (fun k hk => (own3.lt k hk).1)
    clear grow4 hat4 own3 src1 hrun
    obtain ⟨b2, o2, e2, _⟩ := z2.cell 0 (by omega)
    subst e2
    have src2 := (z2.below G4).src
    go_wp2_with (at_builtin; refine wpList_append_lies _ rfl _ _ _ rfl w2.heap.size 3 i0 (.int .i64 0) 1 8 Tryd.underlying22 hi hz0 hz1 hz2 rfl (by omega) (.slice (some ⟨g4, 0, none⟩) n cap4) n (ics xs n) rfl (by exact own4) ⟨b2, o2, none⟩ m c2 (ics ys m) rfl (by rw [ics_len]; omega) (by exact src2) (by exact ics_one _ _) (by omega) (by unfold maxLen; omega) (by omega) (by exact G4.size) w4.heap.size rfl ?_)
    intro g5 cap5 w5 own5 grow5 hat5 hlt5
    have G5 : Below w2.heap.size w2 w5 := G4.grown grow5 G4.size (fun k hk => (own4.lt k hk).1)
    clear grow5 hat5 src2
    rw [ics_append h.len k.len] at own5
    have ZJ : Iz w5 (some ⟨g5, 0, none⟩) (n + m) (xs ++ ys) := Iz.own (by rw [List.length_append, h.len, k.len]) (by omega) (rng_append h.rng k.rng) own5
    have B5 : Below w.heap.size w w5 := below_step G5 B2
    go_wp2_with fail
    refine (pl_any (some ⟨g5, 0, none⟩) (n + m) cap5 (xs ++ ys) _ ZJ (by omega) (tab_at hT B5)).mono ?_
    rintro e w6 ⟨he, hb6⟩
    rw [S_join (by have := h.len; omega) (by have := k.len; omega) HNE.out] at he
    obtain ⟨s7, h7⟩ : ∃ s, s = S xs 0 := ⟨_, rfl⟩
    obtain ⟨s8, h8⟩ : ∃ s, s = S ys 0 := ⟨_, rfl⟩
    have l7 : s7.length ≤ 1441792 := by have := S_len h.rng _ 0 (Nat.zero_add _); have := h.len; rw [h7]; omega
    have l8 : s8.length ≤ 1441792 := by have := S_len k.rng _ 0 (Nat.zero_add _); have := k.len; rw [h8]; omega
    have H7 := hide h7
    have H8 := hide h8
    rw [← h7, ← h8] at he
    clear h7 h8
    subst he
    have B6 := below_step hb6 B5
    have G6 : Below w2.heap.size w2 w6 := below_step hb6 G5
    go_wp2_with fail
    refine (pl_any _ n c1 xs _ (z1b.below G6) (by omega) (tab_at hT B6)).mono ?_
    rintro e w7 ⟨he, hb7⟩
    rw [← H7.out] at he
    subst he
    have B7 := below_step hb7 B6
    have G7 := below_step hb7 G6
    go_wp2_with fail
    refine (pl_any _ m c2 ys _ (z2.below G7) (by omega) (tab_at hT B7)).mono ?_
    rintro e w8 ⟨he, hb8⟩
    rw [← H8.out] at he
    subst he
    have B8 := below_step hb8 B7
    go_wp2_with fail
    go_ret
    exact ⟨ret_bool (by simp [cat2]), B8⟩
end Go.Proofs.Qxb6605270aDoor
