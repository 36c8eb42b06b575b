import Derived.Test.Qxb6605213aCloneM
namespace Go.Proofs.Qxb6605213a
open Go.RowKit Go.Deep

/-- It returned a bool. -/
def RetB (e : Ending) : Prop := ∃ r : Bool, e = .returned (.bool r)

set_option maxRecDepth 100000 in
set_option maxHeartbeats 4000000 in
theorem zz7 (a1 a2 a3 : Option Addr) (an1 an2 an3 ac1 ac2 ac3 : Nat) (ams : List ML) (b1 b2 b3 : Option Addr) (bn1 bn2 bn3 bc1 bc2 bc3 : Nat) (bms : List ML) (w : World) (am1 : an1 ≤ 9223372036854775807) (am2 : an2 ≤ 9223372036854775807) (ah : Ms w a3 an3 ams) (bm1 : bn1 ≤ 9223372036854775807) (bm2 : bn2 ≤ 9223372036854775807) (bh : Ms w b3 bn3 bms) :
    Calls Try.prog 7 #[.slice a1 an1 ac1, .slice a2 an2 ac2, .slice a3 an3 ac3, .slice b1 bn1 bc1, .slice b2 bn2 bc2, .slice b3 bn3 bc3] w fun e w' => RetB e ∧ w' = w := by
  have amx := ah.max
  have bmx := bh.max
  go_enter Try.func7, Try.ntmps7
  go_wp2
  all_goals try (go_ret; exact ⟨⟨false, rfl⟩, rfl⟩)
  go_loop [13, 14] (fun t i => ∃ (k : Nat) (s : Int), k ≤ an3 ∧ i = .int .i64 k ∧ t = .int .i64 s ∧ 0 ≤ s ∧ s ≤ 1048576) (fun _ i => an3 - (intOf i).toNat)
  case atStart => exact ⟨0, _, by omega, rfl, rfl, by omega, by omega⟩
  case round =>
    obtain ⟨k, s, hk, rfl, rfl, s1, s2⟩ := hrel
    by_cases hlt : k < an3
    · obtain ⟨b, o, rfl, hcell⟩ := ah.cell k hlt
      obtain ⟨ra, rn, rc, wa, wn, wc, hl⟩ := hcell k hlt
      have q2 := hl.c2
      have q3 := hl.c3
      have mr := hl.hr.max
      have mw := hl.hw.max
      go_wp2
      all_goals try (go_ret; exact ⟨⟨false, rfl⟩, rfl⟩)
      go_round
      case rel => exact ⟨k + 1, _, by omega, by go_num, rfl, by omega, by omega⟩
      case measure => simp [intOf]; omega
    · go_wp2
      all_goals try (go_ret; exact ⟨⟨false, rfl⟩, rfl⟩)
      go_loop [13, 15] (fun t i => ∃ (k : Nat) (s : Int), k ≤ bn3 ∧ i = .int .i64 k ∧ t = .int .i64 s ∧ 0 ≤ s ∧ s ≤ 1048576) (fun _ i => bn3 - (intOf i).toNat)
      case atStart => exact ⟨0, _, by omega, rfl, rfl, by omega, by omega⟩
      case round =>
        obtain ⟨k, s, hk, rfl, rfl, s1, s2⟩ := hrel
        by_cases hlt : k < bn3
        · obtain ⟨b, o, rfl, hcell⟩ := bh.cell k hlt
          obtain ⟨ra, rn, rc, wa, wn, wc, hl⟩ := hcell k hlt
          have q2 := hl.c2
          have q3 := hl.c3
          have mr := hl.hr.max
          have mw := hl.hw.max
          go_wp2
          all_goals try (go_ret; exact ⟨⟨false, rfl⟩, rfl⟩)
          go_round
          case rel => exact ⟨k + 1, _, by omega, by go_num, rfl, by omega, by omega⟩
          case measure => simp [intOf]; omega
        · go_wp2
          go_ret
          exact ⟨⟨true, rfl⟩, rfl⟩

set_option maxRecDepth 100000 in
set_option maxHeartbeats 4000000 in
theorem zz16 (a1 a2 a3 : Option Addr) (an1 an2 an3 ac1 ac2 ac3 : Nat) (ams : List ML) (b1 b2 b3 : Option Addr) (bn1 bn2 bn3 bc1 bc2 bc3 : Nat) (bms : List ML) (w : World) (am1 : an1 ≤ 9223372036854775807) (am2 : an2 ≤ 9223372036854775807) (ah : Ms w a3 an3 ams) (bm1 : bn1 ≤ 9223372036854775807) (bm2 : bn2 ≤ 9223372036854775807) (bh : Ms w b3 bn3 bms) :
    Calls Try.prog 16 #[.slice a1 an1 ac1, .slice a2 an2 ac2, .slice a3 an3 ac3, .slice b1 bn1 bc1, .slice b2 bn2 bc2, .slice b3 bn3 bc3] w fun e w' => RetB e ∧ w' = w := by
  have amx := ah.max
  have bmx := bh.max
  go_enter Try.func16, Try.ntmps16
  go_wp2
  all_goals try (go_ret; exact ⟨⟨false, rfl⟩, rfl⟩)
  go_loop [13, 14] (fun t i => ∃ (k : Nat) (s : Int), k ≤ an3 ∧ i = .int .i64 k ∧ t = .int .i64 s ∧ 0 ≤ s ∧ s ≤ 1048576) (fun _ i => an3 - (intOf i).toNat)
  case atStart => exact ⟨0, _, by omega, rfl, rfl, by omega, by omega⟩
  case round =>
    obtain ⟨k, s, hk, rfl, rfl, s1, s2⟩ := hrel
    by_cases hlt : k < an3
    · obtain ⟨b, o, rfl, hcell⟩ := ah.cell k hlt
      obtain ⟨ra, rn, rc, wa, wn, wc, hl⟩ := hcell k hlt
      have q2 := hl.c2
      have q3 := hl.c3
      have mr := hl.hr.max
      have mw := hl.hw.max
      go_wp2
      all_goals try (go_ret; exact ⟨⟨false, rfl⟩, rfl⟩)
      go_round
      case rel => exact ⟨k + 1, _, by omega, by go_num, rfl, by omega, by omega⟩
      case measure => simp [intOf]; omega
    · go_wp2
      all_goals try (go_ret; exact ⟨⟨false, rfl⟩, rfl⟩)
      go_loop [13, 15] (fun t i => ∃ (k : Nat) (s : Int), k ≤ bn3 ∧ i = .int .i64 k ∧ t = .int .i64 s ∧ 0 ≤ s ∧ s ≤ 1048576) (fun _ i => bn3 - (intOf i).toNat)
      case atStart => exact ⟨0, _, by omega, rfl, rfl, by omega, by omega⟩
      case round =>
        obtain ⟨k, s, hk, rfl, rfl, s1, s2⟩ := hrel
        by_cases hlt : k < bn3
        · obtain ⟨b, o, rfl, hcell⟩ := bh.cell k hlt
          obtain ⟨ra, rn, rc, wa, wn, wc, hl⟩ := hcell k hlt
          have q2 := hl.c2
          have q3 := hl.c3
          have mr := hl.hr.max
          have mw := hl.hw.max
          go_wp2
          all_goals try (go_ret; exact ⟨⟨false, rfl⟩, rfl⟩)
          go_round
          case rel => exact ⟨k + 1, _, by omega, by go_num, rfl, by omega, by omega⟩
          case measure => simp [intOf]; omega
        · go_wp2
          go_ret
          exact ⟨⟨true, rfl⟩, rfl⟩

end Go.Proofs.Qxb6605213a
