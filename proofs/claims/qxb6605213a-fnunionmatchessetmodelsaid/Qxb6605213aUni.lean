import Derived.Test.Qxb6605213aClone
import Derived.Deep.AppendLies
import Derived.BigRegion
namespace Go.Proofs.Qxb6605213a
open Go.RowKit Go.Deep

theorem Try.infoAt49 : ∃ i, Try.prog.info? 49 = some i ∧ i.zero = some (.int .u64 0) ∧ i.size = 1 ∧ i.bytes = 8 := by
  obtain ⟨i, hi, hzz⟩ := Option.map_eq_some_iff.1 Try.info49
  simp only [Prod.mk.injEq] at hzz
  exact ⟨i, hi, hzz⟩

theorem hide {p : Prop} (h : p) : Hid p := h
theorem unhide {p : Prop} (h : Hid p) : p := h

/-- The union of two sets of words. -/
def uniW (s t : List Nat) : List Nat := (List.range (max s.length t.length)).map fun j => wd s j ||| wd t j

theorem uniW_len (s t : List Nat) : (uniW s t).length = max s.length t.length := by simp [uniW]

theorem wd_uniW (s t : List Nat) (j : Nat) : wd (uniW s t) j = wd s j ||| wd t j := by
  by_cases hj : j < (uniW s t).length
  · rw [wd_lt hj]; simp [uniW]
  · rw [wd_ge (by omega)]
    rw [uniW_len] at hj
    rw [wd_ge (s := s) (by omega), wd_ge (s := t) (by omega)]; rfl

theorem fits_uniW {s t : List Nat} (h : fits s) (k : fits t) : fits (uniW s t) := by
  intro j
  rw [wd_uniW]
  exact Nat.or_lt_two_pow (n := 64) (h j) (k j)

theorem uniW_comm (s t : List Nat) : uniW s t = uniW t s := by
  unfold uniW
  rw [Nat.max_comm]
  exact List.map_congr_left fun j _ => Nat.or_comm _ _

theorem Wd.of_row' {w : World} {b t n c : Nat} {f : Nat → Value} {zs : List Nat} (h : w.rowIs b t c f) (hc : n ≤ c) (hl : zs.length = n) (hf : fits zs) (hm : n ≤ 9223372036854775807) (he : ∀ i, i < n → f i = .int .u64 (wd zs i : Nat)) : Wd w (some ⟨b, 0, none⟩) n zs :=
  ⟨hl, hf, hm, fun _ _ => ⟨b, 0, rfl, fun j hj => by rw [Nat.zero_add, h.cell (by omega), he j hj]⟩⟩

theorem row_of_owns {w : World} {base : Nat} {e : TypeId} {g n cap : Nat} {xs : List Value} (h : w.ownsRow base e 1 (.slice (some ⟨g, 0, none⟩) n cap) n xs) :
    ∃ f, w.rowIs g e cap f ∧ n ≤ cap ∧ base ≤ g ∧ ∀ j u, xs[j]? = some u → f j = u := by
  rcases h.2 with ⟨h0, _⟩ | ⟨g', cap', cur, hv, hb, hg, hn, _, hs, ht⟩
  · cases h0
  · cases hv
    refine ⟨fun j => (cur[j]?).getD (.bool false), ⟨cur, hg, by omega, fun i hi => ?_⟩, hn, hb, fun j u hu => ?_⟩
    · simp only [Array.getElem?_eq_getElem (show i < cur.size by omega), Option.getD_some]
    · rw [← ht] at hu
      have hlt : j < n * 1 := by
        rcases Nat.lt_or_ge j (n * 1) with hj | hj
        · exact hj
        · rw [List.getElem?_eq_none (by rw [List.length_take]; omega)] at hu; cases hu
      rw [List.getElem?_take_of_lt hlt, Array.getElem?_toList] at hu
      simp [hu]

theorem or_u64 {a b : Nat} (ha : a < 18446744073709551616) (hb : b < 18446744073709551616) : bits .or .u64 (a : Int) (b : Int) = ((a ||| b : Nat) : Int) := bits_or_u64_nat a b ha hb

set_option maxHeartbeats 1000000 in
theorem union_ge (a0 a1 : Option Addr) (n0 n1 c0 c1 : Nat) (s t : List Nat) (w : World) (h0 : Wd w a0 n0 s) (h1 : Wd w a1 n1 t) (hn : n0 ≤ 1048576) (hle : n1 ≤ n0) (hp : 0 < n0) :
    Calls Try.prog 32 #[.slice a0 n0 c0, .slice a1 n1 c1] w fun e w' => ∃ a' c', e = .returned (.slice a' n0 c') ∧ Wd w' a' n0 (uniW s t) ∧ (∀ x, a' = some x → w.heap.size ≤ x.block) ∧ Below w.heap.size w w' := by
  obtain ⟨i, hi, iz, is, ib⟩ := Try.infoAt49
  obtain ⟨b0, o0, rfl, hc0⟩ := h0.at hp
  have hlt : ¬ (n0 : Int) < n1 := by omega
  have hws : ∀ j u, ((List.range n0).map fun j => (Value.int .u64 (wd s j : Nat)))[j]? = some u → j < n0 ∧ u = .int .u64 (wd s j : Nat) := by
    intro j u hu
    rw [List.getElem?_map] at hu
    by_cases hj : j < n0
    · rw [List.getElem?_range hj] at hu
      exact ⟨hj, by simpa using hu.symm⟩
    · rw [List.getElem?_eq_none (by simpa using hj)] at hu; cases hu
  have hnews : ∀ j u, ((List.range n0).map fun j => (Value.int .u64 (wd s j : Nat)))[j]? = some u → w.cell? ((⟨b0, o0, none⟩ : Addr).add j) = some u := by
    intro j u hu
    obtain ⟨hj, rfl⟩ := hws j u hu
    rw [Go.WideShapes.add_plain]; exact hc0 j hj
  have hone : ∀ u ∈ ((List.range n0).map fun j => (Value.int .u64 (wd s j : Nat))), u.oneCell' = true := by
    intro u hu
    obtain ⟨j, _, rfl⟩ := List.mem_map.1 hu
    rfl
  have HN := hide hnews
  have HO := hide hone
  have HW := hide hws
  clear hnews hone hws
  go_enter Try.func32, Try.ntmps32
  go_wp2_with (at_builtin; refine wpList_append_lies _ rfl _ _ _ rfl w.heap.size 49 i (.int .u64 0) 1 8 Try.underlying29 hi iz is ib rfl (by omega) (.slice none 0 0) 0 [] rfl (World.ownsRow_nil _ _ _ _) ⟨b0, o0, none⟩ n0 c0 ((List.range n0).map fun j => .int .u64 (wd s j : Nat)) rfl (by simp) (unhide HN) (unhide HO) hp (by unfold maxLen; omega) (by omega) (Nat.le_refl _) w.heap.size rfl ?_)
  intro g cap w1 hown hgrow hat hlt1
  obtain ⟨f, hrow, hcap, hg, hf⟩ := row_of_owns hown
  have hb1 : Below w.heap.size w w1 := (Below.refl _ _).grown hgrow (Nat.le_refl _) (fun k hk => by cases hk)
  have hf' : ∀ j, j < n0 → f j = .int .u64 (wd s j : Nat) := fun j hj => hf j _ (by simp [hj])
  clear hown hgrow hat hlt1 hf HN HO HW
  go_wp2
  go_loopw [18] (fun i wr => ∃ k : Nat, k ≤ n1 ∧ i = .int .i64 k ∧ (∃ f, wr.rowIs g 49 cap f ∧ ∀ j, j < n0 → f j = .int .u64 ((if j < k then wd s j ||| wd t j else wd s j : Nat))) ∧ Below w.heap.size w wr) (fun i _ => n1 - (intOf i).toNat)
  case atStart => exact ⟨0, by omega, rfl, ⟨f, hrow, fun j hj => by simpa using hf' j hj⟩, hb1⟩
  case round =>
    obtain ⟨k, hk, rfl, ⟨f2, hrow2, hf2⟩, hb⟩ := hrel
    clear hf' hrow hb1
    by_cases hltk : k < n1
    · obtain ⟨b1, o1, rfl, hc1⟩ := h1.at hltk
      have q1 := cell_below hb (hc1 k hltk)
      have r0 := hrow2.cell (i := k) (by omega)
      rw [hf2 k (by omega)] at r0
      simp at r0
      have r1 := hrow2.frozen k
      have i1 : (0 : Int) ≤ (k : Int) := by omega
      have i2 : (k : Int) < (n0 : Int) := by omega
      have i3 : (k : Int) < (n1 : Int) := by omega
      go_wp2
      go_region
      go_wp2
      go_roundw
      case rel =>
        rw [or_u64 (h0.fit k) (h1.fit k)]
        refine ⟨k + 1, by omega, by go_num, ⟨_, (hrow2.set k _).drew, fun j hj => ?_⟩, (hb.setCell (p := ⟨g, k, none⟩) hg _).drew⟩
        by_cases e : j = k
        · subst e; simp
        · rw [if_neg e, hf2 j hj]; simp only [show (j < k + 1) ↔ (j < k) from by omega]
      case measure => simp [intOf]; omega
    · go_wp2
      go_ret
      exact ⟨_, _, rfl, Wd.of_row' hrow2 hcap (by rw [uniW_len, h0.len, h1.len]; omega) (fits_uniW h0.fit h1.fit) h0.max (fun j hj => by rw [hf2 j hj, wd_uniW]; congr 2; split; rfl; rw [wd_ge (s := t) (by have := h1.len; omega)]; simp), (fun x e => by cases e; exact hg), hb⟩

set_option maxHeartbeats 1000000 in
theorem union_lt (a0 a1 : Option Addr) (n0 n1 c0 c1 : Nat) (s t : List Nat) (w : World) (h0 : Wd w a0 n0 s) (h1 : Wd w a1 n1 t) (hn : n0 ≤ 1048576) (hle : n1 < n0) (hp : 0 < n0) :
    Calls Try.prog 32 #[.slice a1 n1 c1, .slice a0 n0 c0] w fun e w' => ∃ a' c', e = .returned (.slice a' n0 c') ∧ Wd w' a' n0 (uniW s t) ∧ (∀ x, a' = some x → w.heap.size ≤ x.block) ∧ Below w.heap.size w w' := by
  obtain ⟨i, hi, iz, is, ib⟩ := Try.infoAt49
  obtain ⟨b0, o0, rfl, hc0⟩ := h0.at hp
  have hlt : (n1 : Int) < n0 := by omega
  have hws : ∀ j u, ((List.range n0).map fun j => (Value.int .u64 (wd s j : Nat)))[j]? = some u → j < n0 ∧ u = .int .u64 (wd s j : Nat) := by
    intro j u hu
    rw [List.getElem?_map] at hu
    by_cases hj : j < n0
    · rw [List.getElem?_range hj] at hu
      exact ⟨hj, by simpa using hu.symm⟩
    · rw [List.getElem?_eq_none (by simpa using hj)] at hu; cases hu
  have hnews : ∀ j u, ((List.range n0).map fun j => (Value.int .u64 (wd s j : Nat)))[j]? = some u → w.cell? ((⟨b0, o0, none⟩ : Addr).add j) = some u := by
    intro j u hu
    obtain ⟨hj, rfl⟩ := hws j u hu
    rw [Go.WideShapes.add_plain]; exact hc0 j hj
  have hone : ∀ u ∈ ((List.range n0).map fun j => (Value.int .u64 (wd s j : Nat))), u.oneCell' = true := by
    intro u hu
    obtain ⟨j, _, rfl⟩ := List.mem_map.1 hu
    rfl
  have HN := hide hnews
  have HO := hide hone
  have HW := hide hws
  clear hnews hone hws
  go_enter Try.func32, Try.ntmps32
  go_wp2_with (at_builtin; refine wpList_append_lies _ rfl _ _ _ rfl w.heap.size 49 i (.int .u64 0) 1 8 Try.underlying29 hi iz is ib rfl (by omega) (.slice none 0 0) 0 [] rfl (World.ownsRow_nil _ _ _ _) ⟨b0, o0, none⟩ n0 c0 ((List.range n0).map fun j => .int .u64 (wd s j : Nat)) rfl (by simp) (unhide HN) (unhide HO) hp (by unfold maxLen; omega) (by omega) (Nat.le_refl _) w.heap.size rfl ?_)
  intro g cap w1 hown hgrow hat hlt1
  obtain ⟨f, hrow, hcap, hg, hf⟩ := row_of_owns hown
  have hb1 : Below w.heap.size w w1 := (Below.refl _ _).grown hgrow (Nat.le_refl _) (fun k hk => by cases hk)
  have hf' : ∀ j, j < n0 → f j = .int .u64 (wd s j : Nat) := fun j hj => hf j _ (by simp [hj])
  clear hown hgrow hat hlt1 hf HN HO HW
  go_wp2
  go_loopw [18] (fun i wr => ∃ k : Nat, k ≤ n1 ∧ i = .int .i64 k ∧ (∃ f, wr.rowIs g 49 cap f ∧ ∀ j, j < n0 → f j = .int .u64 ((if j < k then wd s j ||| wd t j else wd s j : Nat))) ∧ Below w.heap.size w wr) (fun i _ => n1 - (intOf i).toNat)
  case atStart => exact ⟨0, by omega, rfl, ⟨f, hrow, fun j hj => by simpa using hf' j hj⟩, hb1⟩
  case round =>
    obtain ⟨k, hk, rfl, ⟨f2, hrow2, hf2⟩, hb⟩ := hrel
    clear hf' hrow hb1
    by_cases hltk : k < n1
    · obtain ⟨b1, o1, rfl, hc1⟩ := h1.at hltk
      have q1 := cell_below hb (hc1 k hltk)
      have r0 := hrow2.cell (i := k) (by omega)
      rw [hf2 k (by omega)] at r0
      simp at r0
      have r1 := hrow2.frozen k
      have i1 : (0 : Int) ≤ (k : Int) := by omega
      have i2 : (k : Int) < (n0 : Int) := by omega
      have i3 : (k : Int) < (n1 : Int) := by omega
      go_wp2
      go_region
      go_wp2
      go_roundw
      case rel =>
        rw [or_u64 (h0.fit k) (h1.fit k)]
        refine ⟨k + 1, by omega, by go_num, ⟨_, (hrow2.set k _).drew, fun j hj => ?_⟩, (hb.setCell (p := ⟨g, k, none⟩) hg _).drew⟩
        by_cases e : j = k
        · subst e; simp
        · rw [if_neg e, hf2 j hj]; simp only [show (j < k + 1) ↔ (j < k) from by omega]
      case measure => simp [intOf]; omega
    · go_wp2
      go_ret
      exact ⟨_, _, rfl, Wd.of_row' hrow2 hcap (by rw [uniW_len, h0.len, h1.len]; omega) (fits_uniW h0.fit h1.fit) h0.max (fun j hj => by rw [hf2 j hj, wd_uniW]; congr 2; split; rfl; rw [wd_ge (s := t) (by have := h1.len; omega)]; simp), (fun x e => by cases e; exact hg), hb⟩

set_option maxHeartbeats 400000 in
theorem union_zero (a0 a1 : Option Addr) (c0 c1 : Nat) (w : World) :
    Calls Try.prog 32 #[.slice a0 0 c0, .slice a1 0 c1] w fun e w' => e = .returned (.slice none 0 0) ∧ Below w.heap.size w w' := by
  cases a0
  · go_enter Try.func32, Try.ntmps32
    go_wp2
    go_loop [18] (fun i => i = .int .i64 0) (fun _ => 0)
    case atStart => rfl
    case round =>
      subst hrel
      go_wp2
      go_ret
      exact ⟨rfl, Below.refl _ _⟩
  · go_enter Try.func32, Try.ntmps32
    go_wp2
    go_loop [18] (fun i => i = .int .i64 0) (fun _ => 0)
    case atStart => rfl
    case round =>
      subst hrel
      go_wp2
      go_ret
      exact ⟨rfl, Below.refl _ _⟩

theorem union_any (a0 a1 : Option Addr) (n0 n1 c0 c1 : Nat) (s t : List Nat) (w : World) (h0 : Wd w a0 n0 s) (h1 : Wd w a1 n1 t) (hn : n0 ≤ 1048576) (hm : n1 ≤ 1048576) :
    Calls Try.prog 32 #[.slice a0 n0 c0, .slice a1 n1 c1] w fun e w' => ∃ a' c', e = .returned (.slice a' (max n0 n1) c') ∧ Wd w' a' (max n0 n1) (uniW s t) ∧ (∀ x, a' = some x → w.heap.size ≤ x.block) ∧ Below w.heap.size w w' := by
  by_cases hz : max n0 n1 = 0
  · obtain rfl : n0 = 0 := by omega
    obtain rfl : n1 = 0 := by omega
    refine (union_zero a0 a1 c0 c1 w).mono ?_
    rintro e w' ⟨rfl, hb⟩
    have e1 := List.length_eq_zero_iff.1 h0.len
    have e2 := List.length_eq_zero_iff.1 h1.len
    subst e1 e2
    exact ⟨none, 0, rfl, wd_nil w', (fun x e => by cases e), hb⟩
  · by_cases hle : n1 ≤ n0
    · have := union_ge a0 a1 n0 n1 c0 c1 s t w h0 h1 hn hle (by omega)
      rw [Nat.max_eq_left hle]
      exact this
    · have := union_lt a1 a0 n1 n0 c1 c0 t s w h1 h0 hm (by omega) (by omega)
      rw [Nat.max_eq_right (by omega), uniW_comm]
      exact this

end Go.Proofs.Qxb6605213a
