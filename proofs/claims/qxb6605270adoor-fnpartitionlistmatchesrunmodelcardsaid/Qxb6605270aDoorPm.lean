import Derived.Test.Qxb6605270aDoorAd
import Derived.Test.Qxb6605270aDoorJn
namespace Go.Proofs.Qxb6605270aDoor
open Go.RowKit Go.Shelf Go.Deep

/-- The bytes written so far, ahead of element i. -/
structure Bm (ps : List Int) (B : Nat) (w wr : World) (i : Nat) (v : Value) (bs : List UInt8) : Prop where
  own : wr.ownsRow B 5 1 v bs.length (Lib.byteCells bs)
  bel : Below B w wr
  eq : bs ++ S ps i = S ps 0
  len : bs.length ≤ 22 * i
  zero : i = 0 → v = .slice none 0 0 ∧ bs = []
  pos : 0 < i → 0 < bs.length

theorem fol_false0 {ps : List Int} {i : Nat} (h : i = 0) : folB ps i = false := by subst h; rfl
theorem fol_bool {ps : List Int} {i : Nat} (h : 0 < i) : folB ps i = (pz ps i == wrap64 (pz ps (i - 1) + 1)) := by simp [folB, h]

/-- What the round writes, by its tests. -/
theorem step_new0 {ps : List Int} {i : Nat} (hl : i < ps.length) (h : folB ps i = false) (h0 : i = 0) : S ps i = Lib.itoa (pz ps i) ++ S ps (i + 1) := by
  rw [S_step hl]; unfold piece; rw [h]; simp [h0]
theorem step_new {ps : List Int} {i : Nat} (hl : i < ps.length) (h : folB ps i = false) (h0 : 0 < i) : S ps i = 44 :: (Lib.itoa (pz ps i) ++ S ps (i + 1)) := by
  rw [S_step hl]; unfold piece; rw [h]; simp [show ¬ i = 0 by omega]
theorem step_mid {ps : List Int} {i : Nat} (hl : i < ps.length) (h : folB ps i = true) (h1 : i + 1 < ps.length) (h2 : folB ps (i + 1) = true) : S ps i = S ps (i + 1) := by
  rw [S_step hl]; unfold piece; rw [h, h2]; simp [h1]
theorem step_last {ps : List Int} {i : Nat} (hl : i < ps.length) (h : folB ps i = true) (h2 : (decide (i + 1 < ps.length) && folB ps (i + 1)) = false) : S ps i = 45 :: (Lib.itoa (pz ps i) ++ S ps (i + 1)) := by
  rw [S_step hl]; unfold piece; rw [h, h2]; simp

set_option maxRecDepth 100000 in
set_option maxHeartbeats 16000000 in
theorem pm_any (a : Option Addr) (n c : Nat) (ps : List Int) (w : World) (h : Iz w a n ps) (hn : n ≤ 1048576) :
    Calls Tryd.prog 8 #[.slice a n c] w fun e w' => e = .returned (.string ⟨(S ps 0).toArray⟩) ∧ Below w.heap.size w w' := by
  obtain ⟨i0, hi, hz0, hz1, hz2⟩ := info_parts Tryd.infoByte
  go_enter Tryd.func8, Tryd.ntmps8
  go_wp2
  go_loopw [3, 4] (fun t k wr => ∃ (i : Nat) (v : Value) (bs : List UInt8), i ≤ n ∧ k = .int .i64 i ∧ t = v ∧ Bm ps w.heap.size w wr i v bs) (fun _ k _ => n - (intOf k).toNat)
  case atStart => exact ⟨0, _, [], by omega, rfl, rfl, World.ownsRow_nil _ _ _ _, Below.refl _ _, by simp, by simp, fun _ => ⟨rfl, rfl⟩, by omega⟩
  case round =>
    obtain ⟨i, v, bs, hin, rfl, rfl, bw⟩ := hrel
    by_cases hlt : i < n
    · have hlt' : (i : Int) < n := by omega
      obtain ⟨b, o, rfl, hc⟩ := h.cell i hlt
      have q0 := cell_below bw.bel (hc i hlt)
      by_cases hp0 : i = 0
      · have g1 : decide (0 < i) = false := by simp; omega
        have g2 : decide ((0 : Int) < (i : Int)) = false := by simp; omega
        by_cases hl2 : i + 1 < n
        · have q2 := cell_below bw.bel (hc (i + 1) hl2)
          have d1 : decide (i + 1 < n) = true := by simpa using hl2
          have d2 : decide ((i : Int) + 1 < (n : Int)) = true := by simp; omega
          have j1 : (0 : Int) ≤ (i : Int) + 1 := by omega
          have j2 : (i : Int) + 1 < (n : Int) := by omega
          cases e1 : (pz ps (i + 1) == wrap64 (pz ps i + 1))
          · have hfb : folB ps i = false := fol_false0 hp0
            have hnb : (decide (i + 1 < ps.length) && folB ps (i + 1)) = false := by rw [fol_bool (show 0 < i + 1 by omega), Nat.add_sub_cancel, e1, Bool.and_false]
            have hS := step_new0 (by have := h.len; omega) hfb hp0
            have HS := hide hS
            have HEQ := hide bw.eq
            have LB := bw.len
            have HOWN := hide bw.own
            have BEL0 := bw.bel
            obtain ⟨hv, hbs⟩ := bw.zero hp0
            have HZ := hide hp0
            clear bw hS hnb hfb hp0
            subst hv hbs
            go_wp2
            go_quiet (fail)
            rename Nat => mq
            go_wp2_with fail
            go_quiet (fail)
            have OWN : ((wr.drewN mq).drewN nq).ownsRow w.heap.size 5 1 (.slice none 0 0) 0 (Lib.byteCells ([] : List UInt8)) := HOWN.out
            have BEL : Below w.heap.size w ((wr.drewN mq).drewN nq) := below_drewN (below_drewN BEL0 _) _
            clear q0 HOWN
            try clear q1
            try clear q2
            clear BEL0
            generalize ((wr.drewN mq).drewN nq) = W at OWN BEL ⊢
            have q0 := cell_below BEL (hc i hlt)
            have OWN1 := OWN
            have BEL1 := BEL
            have la := Lib.itoa_length_le (pz ps i) (h.rng i).1 (h.rng i).2
            have hpi := itoa_pos (pz ps i)
            go_wp2_with fail
            refine (ad_any w.heap.size 0 (pz ps i) (h.rng i).1 (h.rng i).2 (.slice none 0 0) (Lib.byteCells ([] : List UInt8)) _ (by exact OWN1) (by exact BEL1.size) (by omega)).mono ?_
            rintro e W2 ⟨v2, rfl, own2, bel2⟩
            have BEL2 := BEL1.trans bel2
            obtain ⟨l2, hl2e⟩ : ∃ l, l = ([] : List UInt8) ++ Lib.itoa (pz ps i) := ⟨_, rfl⟩
            have e1 : l2.length = 0 + (Lib.itoa (pz ps i)).length := by rw [hl2e]; simp <;> omega
            have e2 : Lib.byteCells l2 = Lib.byteCells ([] : List UInt8) ++ Lib.byteCells (Lib.itoa (pz ps i)) := by rw [hl2e, Lib.byteCells_append]
            rw [← e2, ← e1] at own2
            have hlen2 : l2.length ≤ 22 * i + 22 := by omega
            have hp2 : 0 < l2.length := by omega
            have HL2 := hide hl2e
            clear hl2e e1 e2 la hpi
            go_wp2_with fail
            go_roundw
            case rel => refine ⟨i + 1, v2, l2, by omega, by go_num, rfl, own2, BEL2, ?_, by omega, by omega, fun _ => hp2⟩; have t := HEQ.out; rw [HS.out] at t; rw [HL2.out, ← t]; simp
            case measure => simp [intOf]; omega
          · have hfb : folB ps i = false := fol_false0 hp0
            have hnb : folB ps (i + 1) = true := by rw [fol_bool (show 0 < i + 1 by omega), Nat.add_sub_cancel]; exact e1
            have hS := step_new0 (by have := h.len; omega) hfb hp0
            have HS := hide hS
            have HEQ := hide bw.eq
            have LB := bw.len
            have HOWN := hide bw.own
            have BEL0 := bw.bel
            obtain ⟨hv, hbs⟩ := bw.zero hp0
            have HZ := hide hp0
            clear bw hS hnb hfb hp0
            subst hv hbs
            go_wp2
            go_quiet (fail)
            rename Nat => mq
            go_wp2_with fail
            go_quiet (fail)
            have OWN : ((wr.drewN mq).drewN nq).ownsRow w.heap.size 5 1 (.slice none 0 0) 0 (Lib.byteCells ([] : List UInt8)) := HOWN.out
            have BEL : Below w.heap.size w ((wr.drewN mq).drewN nq) := below_drewN (below_drewN BEL0 _) _
            clear q0 HOWN
            try clear q1
            try clear q2
            clear BEL0
            generalize ((wr.drewN mq).drewN nq) = W at OWN BEL ⊢
            have q0 := cell_below BEL (hc i hlt)
            have OWN1 := OWN
            have BEL1 := BEL
            have la := Lib.itoa_length_le (pz ps i) (h.rng i).1 (h.rng i).2
            have hpi := itoa_pos (pz ps i)
            go_wp2_with fail
            refine (ad_any w.heap.size 0 (pz ps i) (h.rng i).1 (h.rng i).2 (.slice none 0 0) (Lib.byteCells ([] : List UInt8)) _ (by exact OWN1) (by exact BEL1.size) (by omega)).mono ?_
            rintro e W2 ⟨v2, rfl, own2, bel2⟩
            have BEL2 := BEL1.trans bel2
            obtain ⟨l2, hl2e⟩ : ∃ l, l = ([] : List UInt8) ++ Lib.itoa (pz ps i) := ⟨_, rfl⟩
            have e1 : l2.length = 0 + (Lib.itoa (pz ps i)).length := by rw [hl2e]; simp <;> omega
            have e2 : Lib.byteCells l2 = Lib.byteCells ([] : List UInt8) ++ Lib.byteCells (Lib.itoa (pz ps i)) := by rw [hl2e, Lib.byteCells_append]
            rw [← e2, ← e1] at own2
            have hlen2 : l2.length ≤ 22 * i + 22 := by omega
            have hp2 : 0 < l2.length := by omega
            have HL2 := hide hl2e
            clear hl2e e1 e2 la hpi
            go_wp2_with fail
            go_roundw
            case rel => refine ⟨i + 1, v2, l2, by omega, by go_num, rfl, own2, BEL2, ?_, by omega, by omega, fun _ => hp2⟩; have t := HEQ.out; rw [HS.out] at t; rw [HL2.out, ← t]; simp
            case measure => simp [intOf]; omega
        · have d1 : decide (i + 1 < n) = false := by simpa using hl2
          have d2 : decide ((i : Int) + 1 < (n : Int)) = false := by simp; omega
          have hfb : folB ps i = false := fol_false0 hp0
          have hnb : (decide (i + 1 < ps.length) && folB ps (i + 1)) = false := by have := h.len; simp; omega
          have hS := step_new0 (by have := h.len; omega) hfb hp0
          have HS := hide hS
          have HEQ := hide bw.eq
          have LB := bw.len
          have HOWN := hide bw.own
          have BEL0 := bw.bel
          obtain ⟨hv, hbs⟩ := bw.zero hp0
          have HZ := hide hp0
          clear bw hS hnb hfb hp0
          subst hv hbs
          go_wp2
          go_quiet (fail)
          rename Nat => mq
          go_wp2_with fail
          go_quiet (fail)
          have OWN : ((wr.drewN mq).drewN nq).ownsRow w.heap.size 5 1 (.slice none 0 0) 0 (Lib.byteCells ([] : List UInt8)) := HOWN.out
          have BEL : Below w.heap.size w ((wr.drewN mq).drewN nq) := below_drewN (below_drewN BEL0 _) _
          clear q0 HOWN
          try clear q1
          try clear q2
          clear BEL0
          generalize ((wr.drewN mq).drewN nq) = W at OWN BEL ⊢
          have q0 := cell_below BEL (hc i hlt)
          have OWN1 := OWN
          have BEL1 := BEL
          have la := Lib.itoa_length_le (pz ps i) (h.rng i).1 (h.rng i).2
          have hpi := itoa_pos (pz ps i)
          go_wp2_with fail
          refine (ad_any w.heap.size 0 (pz ps i) (h.rng i).1 (h.rng i).2 (.slice none 0 0) (Lib.byteCells ([] : List UInt8)) _ (by exact OWN1) (by exact BEL1.size) (by omega)).mono ?_
          rintro e W2 ⟨v2, rfl, own2, bel2⟩
          have BEL2 := BEL1.trans bel2
          obtain ⟨l2, hl2e⟩ : ∃ l, l = ([] : List UInt8) ++ Lib.itoa (pz ps i) := ⟨_, rfl⟩
          have e1 : l2.length = 0 + (Lib.itoa (pz ps i)).length := by rw [hl2e]; simp <;> omega
          have e2 : Lib.byteCells l2 = Lib.byteCells ([] : List UInt8) ++ Lib.byteCells (Lib.itoa (pz ps i)) := by rw [hl2e, Lib.byteCells_append]
          rw [← e2, ← e1] at own2
          have hlen2 : l2.length ≤ 22 * i + 22 := by omega
          have hp2 : 0 < l2.length := by omega
          have HL2 := hide hl2e
          clear hl2e e1 e2 la hpi
          go_wp2_with fail
          go_roundw
          case rel => refine ⟨i + 1, v2, l2, by omega, by go_num, rfl, own2, BEL2, ?_, by omega, by omega, fun _ => hp2⟩; have t := HEQ.out; rw [HS.out] at t; rw [HL2.out, ← t]; simp
          case measure => simp [intOf]; omega
      · have hp1 : 0 < i := by omega
        clear hp0
        have hp0 := hp1
        clear hp1
        have g1 : decide (0 < i) = true := by simp; omega
        have g2 : decide ((0 : Int) < (i : Int)) = true := by simp; omega
        have k1 : (0 : Int) ≤ (i : Int) - 1 := by omega
        have k2 : (i : Int) - 1 < (n : Int) := by omega
        have q1 := cell_below bw.bel (hc (i - 1) (by omega))
        cases e0 : (pz ps i == wrap64 (pz ps (i - 1) + 1))
        · by_cases hl2 : i + 1 < n
          · have q2 := cell_below bw.bel (hc (i + 1) hl2)
            have d1 : decide (i + 1 < n) = true := by simpa using hl2
            have d2 : decide ((i : Int) + 1 < (n : Int)) = true := by simp; omega
            have j1 : (0 : Int) ≤ (i : Int) + 1 := by omega
            have j2 : (i : Int) + 1 < (n : Int) := by omega
            cases e1 : (pz ps (i + 1) == wrap64 (pz ps i + 1))
            · have hfb : folB ps i = false := by rw [fol_bool hp0]; exact e0
              have hnb : (decide (i + 1 < ps.length) && folB ps (i + 1)) = false := by rw [fol_bool (show 0 < i + 1 by omega), Nat.add_sub_cancel, e1, Bool.and_false]
              have hS := step_new (by have := h.len; omega) hfb hp0
              have HS := hide hS
              have HEQ := hide bw.eq
              have LB := bw.len
              have HOWN := hide bw.own
              have BEL0 := bw.bel
              have hp := bw.pos hp0
              clear bw hS hnb hfb
              go_wp2
              go_quiet (fail)
              rename Nat => mq
              go_wp2_with fail
              go_quiet (fail)
              have OWN : ((wr.drewN mq).drewN nq).ownsRow w.heap.size 5 1 u3 bs.length (Lib.byteCells bs) := HOWN.out
              have BEL : Below w.heap.size w ((wr.drewN mq).drewN nq) := below_drewN (below_drewN BEL0 _) _
              clear q0 HOWN
              try clear q1
              try clear q2
              clear BEL0
              generalize ((wr.drewN mq).drewN nq) = W at OWN BEL ⊢
              have q0 := cell_below BEL (hc i hlt)
              obtain ⟨g, cap, hv, hgB, hgW⟩ := OWN.form hp
              subst hv
              have bszW := BEL.size
              go_wp2_with (at_builtin; refine wpList_append_lies _ rfl _ _ _ rfl w.heap.size 5 i0 (.int .u8 0) 1 1 Tryd.underlying27 hi hz0 hz1 hz2 rfl (by omega) (.slice (some ⟨g, 0, none⟩) bs.length cap) bs.length (Lib.byteCells bs) rfl (by exact World.ownsRow.alloc OWN _) ⟨W.heap.size, 0, none⟩ 1 1 [.int .u8 44] rfl rfl (by exact news1 _ _ rfl _) (by exact one1 _) (by omega) (by unfold maxLen; omega) (by omega) (by simp; have := BEL.size; omega) (W.heap.size + 1) (by simp) ?_)
              intro g1 cap1 W1 hown1 hgrow1 hat1 hlt1
              have BEL1 : Below w.heap.size w W1 := (BEL.alloc BEL.size _).grown hgrow1 (by simp; omega) (fun k hk => (OWN.lt k hk).1)
              have OWN1 : W1.ownsRow w.heap.size 5 1 (.slice (some ⟨g1, 0, none⟩) (bs.length + 1) cap1) (bs.length + 1) (Lib.byteCells (bs ++ [44])) := by rw [byteCells_snoc]; exact hown1
              have q0 := cell_below BEL1 (hc i hlt)
              clear hown1 hgrow1 hat1
              have la := Lib.itoa_length_le (pz ps i) (h.rng i).1 (h.rng i).2
              have hpi := itoa_pos (pz ps i)
              go_wp2_with fail
              refine (ad_any w.heap.size (bs.length + 1) (pz ps i) (h.rng i).1 (h.rng i).2 (.slice (some ⟨g1, 0, none⟩) (bs.length + 1) cap1) (Lib.byteCells (bs ++ [44])) _ (by exact OWN1) (by exact BEL1.size) (by omega)).mono ?_
              rintro e W2 ⟨v2, rfl, own2, bel2⟩
              have BEL2 := BEL1.trans bel2
              obtain ⟨l2, hl2e⟩ : ∃ l, l = (bs ++ [44]) ++ Lib.itoa (pz ps i) := ⟨_, rfl⟩
              have e1 : l2.length = (bs.length + 1) + (Lib.itoa (pz ps i)).length := by rw [hl2e]; simp <;> omega
              have e2 : Lib.byteCells l2 = Lib.byteCells (bs ++ [44]) ++ Lib.byteCells (Lib.itoa (pz ps i)) := by rw [hl2e, Lib.byteCells_append]
              rw [← e2, ← e1] at own2
              have hlen2 : l2.length ≤ 22 * i + 22 := by omega
              have hp2 : 0 < l2.length := by omega
              have HL2 := hide hl2e
              clear hl2e e1 e2 la hpi
              go_wp2_with fail
              go_roundw
              case rel => refine ⟨i + 1, v2, l2, by omega, by go_num, rfl, own2, BEL2, ?_, by omega, by omega, fun _ => hp2⟩; have t := HEQ.out; rw [HS.out] at t; rw [HL2.out, ← t]; simp
              case measure => simp [intOf]; omega
            · have hfb : folB ps i = false := by rw [fol_bool hp0]; exact e0
              have hnb : folB ps (i + 1) = true := by rw [fol_bool (show 0 < i + 1 by omega), Nat.add_sub_cancel]; exact e1
              have hS := step_new (by have := h.len; omega) hfb hp0
              have HS := hide hS
              have HEQ := hide bw.eq
              have LB := bw.len
              have HOWN := hide bw.own
              have BEL0 := bw.bel
              have hp := bw.pos hp0
              clear bw hS hnb hfb
              go_wp2
              go_quiet (fail)
              rename Nat => mq
              go_wp2_with fail
              go_quiet (fail)
              have OWN : ((wr.drewN mq).drewN nq).ownsRow w.heap.size 5 1 u3 bs.length (Lib.byteCells bs) := HOWN.out
              have BEL : Below w.heap.size w ((wr.drewN mq).drewN nq) := below_drewN (below_drewN BEL0 _) _
              clear q0 HOWN
              try clear q1
              try clear q2
              clear BEL0
              generalize ((wr.drewN mq).drewN nq) = W at OWN BEL ⊢
              have q0 := cell_below BEL (hc i hlt)
              obtain ⟨g, cap, hv, hgB, hgW⟩ := OWN.form hp
              subst hv
              have bszW := BEL.size
              go_wp2_with (at_builtin; refine wpList_append_lies _ rfl _ _ _ rfl w.heap.size 5 i0 (.int .u8 0) 1 1 Tryd.underlying27 hi hz0 hz1 hz2 rfl (by omega) (.slice (some ⟨g, 0, none⟩) bs.length cap) bs.length (Lib.byteCells bs) rfl (by exact World.ownsRow.alloc OWN _) ⟨W.heap.size, 0, none⟩ 1 1 [.int .u8 44] rfl rfl (by exact news1 _ _ rfl _) (by exact one1 _) (by omega) (by unfold maxLen; omega) (by omega) (by simp; have := BEL.size; omega) (W.heap.size + 1) (by simp) ?_)
              intro g1 cap1 W1 hown1 hgrow1 hat1 hlt1
              have BEL1 : Below w.heap.size w W1 := (BEL.alloc BEL.size _).grown hgrow1 (by simp; omega) (fun k hk => (OWN.lt k hk).1)
              have OWN1 : W1.ownsRow w.heap.size 5 1 (.slice (some ⟨g1, 0, none⟩) (bs.length + 1) cap1) (bs.length + 1) (Lib.byteCells (bs ++ [44])) := by rw [byteCells_snoc]; exact hown1
              have q0 := cell_below BEL1 (hc i hlt)
              clear hown1 hgrow1 hat1
              have la := Lib.itoa_length_le (pz ps i) (h.rng i).1 (h.rng i).2
              have hpi := itoa_pos (pz ps i)
              go_wp2_with fail
              refine (ad_any w.heap.size (bs.length + 1) (pz ps i) (h.rng i).1 (h.rng i).2 (.slice (some ⟨g1, 0, none⟩) (bs.length + 1) cap1) (Lib.byteCells (bs ++ [44])) _ (by exact OWN1) (by exact BEL1.size) (by omega)).mono ?_
              rintro e W2 ⟨v2, rfl, own2, bel2⟩
              have BEL2 := BEL1.trans bel2
              obtain ⟨l2, hl2e⟩ : ∃ l, l = (bs ++ [44]) ++ Lib.itoa (pz ps i) := ⟨_, rfl⟩
              have e1 : l2.length = (bs.length + 1) + (Lib.itoa (pz ps i)).length := by rw [hl2e]; simp <;> omega
              have e2 : Lib.byteCells l2 = Lib.byteCells (bs ++ [44]) ++ Lib.byteCells (Lib.itoa (pz ps i)) := by rw [hl2e, Lib.byteCells_append]
              rw [← e2, ← e1] at own2
              have hlen2 : l2.length ≤ 22 * i + 22 := by omega
              have hp2 : 0 < l2.length := by omega
              have HL2 := hide hl2e
              clear hl2e e1 e2 la hpi
              go_wp2_with fail
              go_roundw
              case rel => refine ⟨i + 1, v2, l2, by omega, by go_num, rfl, own2, BEL2, ?_, by omega, by omega, fun _ => hp2⟩; have t := HEQ.out; rw [HS.out] at t; rw [HL2.out, ← t]; simp
              case measure => simp [intOf]; omega
          · have d1 : decide (i + 1 < n) = false := by simpa using hl2
            have d2 : decide ((i : Int) + 1 < (n : Int)) = false := by simp; omega
            have hfb : folB ps i = false := by rw [fol_bool hp0]; exact e0
            have hnb : (decide (i + 1 < ps.length) && folB ps (i + 1)) = false := by have := h.len; simp; omega
            have hS := step_new (by have := h.len; omega) hfb hp0
            have HS := hide hS
            have HEQ := hide bw.eq
            have LB := bw.len
            have HOWN := hide bw.own
            have BEL0 := bw.bel
            have hp := bw.pos hp0
            clear bw hS hnb hfb
            go_wp2
            go_quiet (fail)
            rename Nat => mq
            go_wp2_with fail
            go_quiet (fail)
            have OWN : ((wr.drewN mq).drewN nq).ownsRow w.heap.size 5 1 u3 bs.length (Lib.byteCells bs) := HOWN.out
            have BEL : Below w.heap.size w ((wr.drewN mq).drewN nq) := below_drewN (below_drewN BEL0 _) _
            clear q0 HOWN
            try clear q1
            try clear q2
            clear BEL0
            generalize ((wr.drewN mq).drewN nq) = W at OWN BEL ⊢
            have q0 := cell_below BEL (hc i hlt)
            obtain ⟨g, cap, hv, hgB, hgW⟩ := OWN.form hp
            subst hv
            have bszW := BEL.size
            go_wp2_with (at_builtin; refine wpList_append_lies _ rfl _ _ _ rfl w.heap.size 5 i0 (.int .u8 0) 1 1 Tryd.underlying27 hi hz0 hz1 hz2 rfl (by omega) (.slice (some ⟨g, 0, none⟩) bs.length cap) bs.length (Lib.byteCells bs) rfl (by exact World.ownsRow.alloc OWN _) ⟨W.heap.size, 0, none⟩ 1 1 [.int .u8 44] rfl rfl (by exact news1 _ _ rfl _) (by exact one1 _) (by omega) (by unfold maxLen; omega) (by omega) (by simp; have := BEL.size; omega) (W.heap.size + 1) (by simp) ?_)
            intro g1 cap1 W1 hown1 hgrow1 hat1 hlt1
            have BEL1 : Below w.heap.size w W1 := (BEL.alloc BEL.size _).grown hgrow1 (by simp; omega) (fun k hk => (OWN.lt k hk).1)
            have OWN1 : W1.ownsRow w.heap.size 5 1 (.slice (some ⟨g1, 0, none⟩) (bs.length + 1) cap1) (bs.length + 1) (Lib.byteCells (bs ++ [44])) := by rw [byteCells_snoc]; exact hown1
            have q0 := cell_below BEL1 (hc i hlt)
            clear hown1 hgrow1 hat1
            have la := Lib.itoa_length_le (pz ps i) (h.rng i).1 (h.rng i).2
            have hpi := itoa_pos (pz ps i)
            go_wp2_with fail
            refine (ad_any w.heap.size (bs.length + 1) (pz ps i) (h.rng i).1 (h.rng i).2 (.slice (some ⟨g1, 0, none⟩) (bs.length + 1) cap1) (Lib.byteCells (bs ++ [44])) _ (by exact OWN1) (by exact BEL1.size) (by omega)).mono ?_
            rintro e W2 ⟨v2, rfl, own2, bel2⟩
            have BEL2 := BEL1.trans bel2
            obtain ⟨l2, hl2e⟩ : ∃ l, l = (bs ++ [44]) ++ Lib.itoa (pz ps i) := ⟨_, rfl⟩
            have e1 : l2.length = (bs.length + 1) + (Lib.itoa (pz ps i)).length := by rw [hl2e]; simp <;> omega
            have e2 : Lib.byteCells l2 = Lib.byteCells (bs ++ [44]) ++ Lib.byteCells (Lib.itoa (pz ps i)) := by rw [hl2e, Lib.byteCells_append]
            rw [← e2, ← e1] at own2
            have hlen2 : l2.length ≤ 22 * i + 22 := by omega
            have hp2 : 0 < l2.length := by omega
            have HL2 := hide hl2e
            clear hl2e e1 e2 la hpi
            go_wp2_with fail
            go_roundw
            case rel => refine ⟨i + 1, v2, l2, by omega, by go_num, rfl, own2, BEL2, ?_, by omega, by omega, fun _ => hp2⟩; have t := HEQ.out; rw [HS.out] at t; rw [HL2.out, ← t]; simp
            case measure => simp [intOf]; omega
        · by_cases hl2 : i + 1 < n
          · have q2 := cell_below bw.bel (hc (i + 1) hl2)
            have d1 : decide (i + 1 < n) = true := by simpa using hl2
            have d2 : decide ((i : Int) + 1 < (n : Int)) = true := by simp; omega
            have j1 : (0 : Int) ≤ (i : Int) + 1 := by omega
            have j2 : (i : Int) + 1 < (n : Int) := by omega
            cases e1 : (pz ps (i + 1) == wrap64 (pz ps i + 1))
            · have hfb : folB ps i = true := by rw [fol_bool hp0]; exact e0
              have hnb : (decide (i + 1 < ps.length) && folB ps (i + 1)) = false := by rw [fol_bool (show 0 < i + 1 by omega), Nat.add_sub_cancel, e1, Bool.and_false]
              have hS := step_last (by have := h.len; omega) hfb hnb
              have HS := hide hS
              have HEQ := hide bw.eq
              have LB := bw.len
              have HOWN := hide bw.own
              have BEL0 := bw.bel
              have hp := bw.pos hp0
              clear bw hS hnb hfb
              go_wp2
              go_quiet (fail)
              rename Nat => mq
              go_wp2_with fail
              go_quiet (fail)
              have OWN : ((wr.drewN mq).drewN nq).ownsRow w.heap.size 5 1 u3 bs.length (Lib.byteCells bs) := HOWN.out
              have BEL : Below w.heap.size w ((wr.drewN mq).drewN nq) := below_drewN (below_drewN BEL0 _) _
              clear q0 HOWN
              try clear q1
              try clear q2
              clear BEL0
              generalize ((wr.drewN mq).drewN nq) = W at OWN BEL ⊢
              have q0 := cell_below BEL (hc i hlt)
              obtain ⟨g, cap, hv, hgB, hgW⟩ := OWN.form hp
              subst hv
              have bszW := BEL.size
              go_wp2_with (at_builtin; refine wpList_append_lies _ rfl _ _ _ rfl w.heap.size 5 i0 (.int .u8 0) 1 1 Tryd.underlying27 hi hz0 hz1 hz2 rfl (by omega) (.slice (some ⟨g, 0, none⟩) bs.length cap) bs.length (Lib.byteCells bs) rfl (by exact World.ownsRow.alloc OWN _) ⟨W.heap.size, 0, none⟩ 1 1 [.int .u8 45] rfl rfl (by exact news1 _ _ rfl _) (by exact one1 _) (by omega) (by unfold maxLen; omega) (by omega) (by simp; have := BEL.size; omega) (W.heap.size + 1) (by simp) ?_)
              intro g1 cap1 W1 hown1 hgrow1 hat1 hlt1
              have BEL1 : Below w.heap.size w W1 := (BEL.alloc BEL.size _).grown hgrow1 (by simp; omega) (fun k hk => (OWN.lt k hk).1)
              have OWN1 : W1.ownsRow w.heap.size 5 1 (.slice (some ⟨g1, 0, none⟩) (bs.length + 1) cap1) (bs.length + 1) (Lib.byteCells (bs ++ [45])) := by rw [byteCells_snoc]; exact hown1
              have q0 := cell_below BEL1 (hc i hlt)
              clear hown1 hgrow1 hat1
              have la := Lib.itoa_length_le (pz ps i) (h.rng i).1 (h.rng i).2
              have hpi := itoa_pos (pz ps i)
              go_wp2_with fail
              refine (ad_any w.heap.size (bs.length + 1) (pz ps i) (h.rng i).1 (h.rng i).2 (.slice (some ⟨g1, 0, none⟩) (bs.length + 1) cap1) (Lib.byteCells (bs ++ [45])) _ (by exact OWN1) (by exact BEL1.size) (by omega)).mono ?_
              rintro e W2 ⟨v2, rfl, own2, bel2⟩
              have BEL2 := BEL1.trans bel2
              obtain ⟨l2, hl2e⟩ : ∃ l, l = (bs ++ [45]) ++ Lib.itoa (pz ps i) := ⟨_, rfl⟩
              have e1 : l2.length = (bs.length + 1) + (Lib.itoa (pz ps i)).length := by rw [hl2e]; simp <;> omega
              have e2 : Lib.byteCells l2 = Lib.byteCells (bs ++ [45]) ++ Lib.byteCells (Lib.itoa (pz ps i)) := by rw [hl2e, Lib.byteCells_append]
              rw [← e2, ← e1] at own2
              have hlen2 : l2.length ≤ 22 * i + 22 := by omega
              have hp2 : 0 < l2.length := by omega
              have HL2 := hide hl2e
              clear hl2e e1 e2 la hpi
              go_wp2_with fail
              go_roundw
              case rel => refine ⟨i + 1, v2, l2, by omega, by go_num, rfl, own2, BEL2, ?_, by omega, by omega, fun _ => hp2⟩; have t := HEQ.out; rw [HS.out] at t; rw [HL2.out, ← t]; simp
              case measure => simp [intOf]; omega
            · have hfb : folB ps i = true := by rw [fol_bool hp0]; exact e0
              have hnb : folB ps (i + 1) = true := by rw [fol_bool (show 0 < i + 1 by omega), Nat.add_sub_cancel]; exact e1
              have hS := step_mid (by have := h.len; omega) hfb (by have := h.len; omega) hnb
              have HS := hide hS
              have HEQ := hide bw.eq
              have LB := bw.len
              have HOWN := hide bw.own
              have BEL0 := bw.bel
              have hp := bw.pos hp0
              clear bw hS hnb hfb
              go_wp2
              go_quiet (fail)
              rename Nat => mq
              go_wp2_with fail
              go_quiet (fail)
              go_wp2_with fail
              go_roundw
              case rel => refine ⟨i + 1, u3, bs, by omega, by go_num, rfl, HOWN.out, below_drewN BEL0 _, ?_, by omega, by omega, fun _ => hp⟩; have t := HEQ.out; rw [HS.out] at t; exact t
              case measure => simp [intOf]; omega
          · have d1 : decide (i + 1 < n) = false := by simpa using hl2
            have d2 : decide ((i : Int) + 1 < (n : Int)) = false := by simp; omega
            have hfb : folB ps i = true := by rw [fol_bool hp0]; exact e0
            have hnb : (decide (i + 1 < ps.length) && folB ps (i + 1)) = false := by have := h.len; simp; omega
            have hS := step_last (by have := h.len; omega) hfb hnb
            have HS := hide hS
            have HEQ := hide bw.eq
            have LB := bw.len
            have HOWN := hide bw.own
            have BEL0 := bw.bel
            have hp := bw.pos hp0
            clear bw hS hnb hfb
            go_wp2
            go_quiet (fail)
            rename Nat => mq
            go_wp2_with fail
            go_quiet (fail)
            have OWN : ((wr.drewN mq).drewN nq).ownsRow w.heap.size 5 1 u3 bs.length (Lib.byteCells bs) := HOWN.out
            have BEL : Below w.heap.size w ((wr.drewN mq).drewN nq) := below_drewN (below_drewN BEL0 _) _
            clear q0 HOWN
            try clear q1
            try clear q2
            clear BEL0
            generalize ((wr.drewN mq).drewN nq) = W at OWN BEL ⊢
            have q0 := cell_below BEL (hc i hlt)
            obtain ⟨g, cap, hv, hgB, hgW⟩ := OWN.form hp
            subst hv
            have bszW := BEL.size
            go_wp2_with (at_builtin; refine wpList_append_lies _ rfl _ _ _ rfl w.heap.size 5 i0 (.int .u8 0) 1 1 Tryd.underlying27 hi hz0 hz1 hz2 rfl (by omega) (.slice (some ⟨g, 0, none⟩) bs.length cap) bs.length (Lib.byteCells bs) rfl (by exact World.ownsRow.alloc OWN _) ⟨W.heap.size, 0, none⟩ 1 1 [.int .u8 45] rfl rfl (by exact news1 _ _ rfl _) (by exact one1 _) (by omega) (by unfold maxLen; omega) (by omega) (by simp; have := BEL.size; omega) (W.heap.size + 1) (by simp) ?_)
            intro g1 cap1 W1 hown1 hgrow1 hat1 hlt1
            have BEL1 : Below w.heap.size w W1 := (BEL.alloc BEL.size _).grown hgrow1 (by simp; omega) (fun k hk => (OWN.lt k hk).1)
            have OWN1 : W1.ownsRow w.heap.size 5 1 (.slice (some ⟨g1, 0, none⟩) (bs.length + 1) cap1) (bs.length + 1) (Lib.byteCells (bs ++ [45])) := by rw [byteCells_snoc]; exact hown1
            have q0 := cell_below BEL1 (hc i hlt)
            clear hown1 hgrow1 hat1
            have la := Lib.itoa_length_le (pz ps i) (h.rng i).1 (h.rng i).2
            have hpi := itoa_pos (pz ps i)
            go_wp2_with fail
            refine (ad_any w.heap.size (bs.length + 1) (pz ps i) (h.rng i).1 (h.rng i).2 (.slice (some ⟨g1, 0, none⟩) (bs.length + 1) cap1) (Lib.byteCells (bs ++ [45])) _ (by exact OWN1) (by exact BEL1.size) (by omega)).mono ?_
            rintro e W2 ⟨v2, rfl, own2, bel2⟩
            have BEL2 := BEL1.trans bel2
            obtain ⟨l2, hl2e⟩ : ∃ l, l = (bs ++ [45]) ++ Lib.itoa (pz ps i) := ⟨_, rfl⟩
            have e1 : l2.length = (bs.length + 1) + (Lib.itoa (pz ps i)).length := by rw [hl2e]; simp <;> omega
            have e2 : Lib.byteCells l2 = Lib.byteCells (bs ++ [45]) ++ Lib.byteCells (Lib.itoa (pz ps i)) := by rw [hl2e, Lib.byteCells_append]
            rw [← e2, ← e1] at own2
            have hlen2 : l2.length ≤ 22 * i + 22 := by omega
            have hp2 : 0 < l2.length := by omega
            have HL2 := hide hl2e
            clear hl2e e1 e2 la hpi
            go_wp2_with fail
            go_roundw
            case rel => refine ⟨i + 1, v2, l2, by omega, by go_num, rfl, own2, BEL2, ?_, by omega, by omega, fun _ => hp2⟩; have t := HEQ.out; rw [HS.out] at t; rw [HL2.out, ← t]; simp
            case measure => simp [intOf]; omega
    · have HE : Hid (bs = S ps 0) := by
        show bs = S ps 0
        have t := bw.eq
        rw [S_end (by have := h.len; omega), List.append_nil] at t
        exact t
      have BEL := bw.bel
      have hlt' : ¬ (i : Int) < n := by omega
      by_cases h0 : i = 0
      · obtain ⟨hv, hbs⟩ := bw.zero h0
        have HB := hide hbs
        clear bw h0 hbs
        subst hv
        have hcv : (convert 27 9 (.slice none 0 0)).run Tryd.prog wr = .ok (.string ⟨#[]⟩) wr := by
          rw [run_convert_bytes_string wr 27 9 5 none 0 0 Tryd.underlying27 Tryd.underlying5 Tryd.underlying9]; rfl
        go_wp2
        go_ret
        exact ⟨by rw [← HE.out, HB.out]; rfl, BEL⟩
      · have hp := bw.pos (by omega)
        have own := bw.own
        obtain ⟨g, cap, hv, _, _⟩ := own.form hp
        clear bw h0
        subst hv
        have hcv := run_convert_bytes_back (P := Tryd.prog) wr 27 9 5 ⟨g, 0, none⟩ cap bs Tryd.underlying27 Tryd.underlying5 Tryd.underlying9 (fun j hj => own.cells (g := g) rfl j _ (by simp [Lib.byteCells, hj]))
        go_wp2
        go_ret
        have e := HE.out
        subst e
        exact ⟨rfl, BEL⟩
end Go.Proofs.Qxb6605270aDoor
