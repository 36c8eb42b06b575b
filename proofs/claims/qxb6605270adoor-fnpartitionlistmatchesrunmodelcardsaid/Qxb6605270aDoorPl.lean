import Derived.Test.Qxb6605270aDoorRows
import Derived.Test.Qxb6605270aDoorShelf
import Derived.Test.Qxb6605270aDoorPlain
import Derived.WalkKit
import Derived.WalkSpells
import Derived.WalkLawsBesides
import Derived.BigQuiet
import Derived.Deep.AppendLies
import Derived.Lib.AppendIntMem
import Derived.Laws.IdiomStrings
import Derived.OwnWalk
namespace Go.Proofs.Qxb6605270aDoor
open Go.RowKit Go.Shelf

/-- The slice (a, n) holds the ints ps in w. -/
structure Iz (w : World) (a : Option Addr) (n : Nat) (ps : List Int) : Prop where
  len : ps.length = n
  max : n ≤ 9223372036854775807
  rng : ∀ j, -9223372036854775808 ≤ pz ps j ∧ pz ps j ≤ 9223372036854775807
  cell : ∀ i, i < n → ∃ b o, a = some ⟨b, o, none⟩ ∧ ∀ j, j < n → w.cell? ⟨b, o + j, none⟩ = some (.int .i64 (pz ps j))

theorem cell_below {w w' : World} (hb : Below w.heap.size w w') {a : Addr} {v : Value} (hc : w.cell? a = some v) : w'.cell? a = some v := (hb.cell (World.block_lt_of_cell? w a hc)).trans hc

theorem Iz.below {w w' : World} {a : Option Addr} {n : Nat} {ps : List Int} (h : Iz w a n ps) (hb : Below w.heap.size w w') : Iz w' a n ps :=
  ⟨h.len, h.max, h.rng, fun i hi => by
    obtain ⟨b, o, e, hc⟩ := h.cell i hi
    exact ⟨b, o, e, fun j hj => cell_below hb (hc j hj)⟩⟩

theorem Tryd.infoByte : (Tryd.prog.info? 5).map (fun i => (i.zero, i.size, i.bytes)) = some (some (.int .u8 0), 1, 1) := by kernel_rfl

theorem ret_str {a b : List UInt8} (h : a = b) : Ending.returned (.string ⟨a.toArray⟩) = .returned (.string ⟨b.toArray⟩) := by rw [h]

theorem hide {p : Prop} (h : p) : Hid p := h

theorem news1 (W : World) (N : Nat) (hN : W.heap.size = N) (c : Value) : ∀ j u, [c][j]? = some u → (W.alloc (.cells #[c] 5)).cell? ((⟨N, 0, none⟩ : Addr).add j) = some u := by
  subst hN
  exact World.news_of_block (cs := #[c]) (t := 5) (fr := (0, 0)) (heap_alloc_new W _)

theorem one1 (c : Int) : ∀ u ∈ [Value.int .u8 c], u.oneCell' = true := by
  intro u hu
  simp at hu
  subst hu
  rfl

theorem byteCells_snoc (bs : List UInt8) (c : UInt8) : Lib.byteCells (bs ++ [c]) = Lib.byteCells bs ++ [.int .u8 (c.toNat : Int)] := by simp [Lib.byteCells]

theorem len_snoc (l : List UInt8) (c : UInt8) : (l ++ [c]).length = l.length + 1 := by simp

theorem itoa_pos (n : Int) : 0 < (Lib.itoa n).length := by
  unfold Lib.itoa
  split
  · simp
  · exact List.length_pos_iff.2 (by rw [Lib.decDigits]; split <;> simp)

/-- The bytes written so far, at element i. -/
structure Bw (ps : List Int) (B : Nat) (w wr : World) (i : Nat) (v : Value) (bs : List UInt8) : Prop where
  own : wr.ownsRow B 5 1 v bs.length (Lib.byteCells bs)
  bel : Below B w wr
  eq : bs ++ S ps i = S ps 0
  brk : i < ps.length → ¬ Fol ps i
  len : bs.length ≤ 44 * i
  zero : i = 0 → v = .slice none 0 0 ∧ bs = []
  pos : 0 < i → 0 < bs.length

set_option maxRecDepth 100000 in
set_option maxHeartbeats 16000000 in
theorem pl_any (a : Option Addr) (n c : Nat) (ps : List Int) (w : World) (h : Iz w a n ps) (hn : n ≤ 1048576) (hT : Lib.TabBelow Tryd.prog w.heap.size w "internal/strconv.uint64pow10" .u64 Lib.pow10Tab) :
    Calls Tryd.prog 7 #[.slice a n c] w fun e w' => e = .returned (.string ⟨(S ps 0).toArray⟩) ∧ Below w.heap.size w w' := by
  obtain ⟨i0, hi, hz0, hz1, hz2⟩ := info_parts Tryd.infoByte
  go_enter Tryd.func7, Tryd.ntmps7
  go_wp2
  go_loopw [3, 4] (fun t k wr => ∃ (i : Nat) (v : Value) (bs : List UInt8), i ≤ n ∧ k = .int .i64 i ∧ t = v ∧ Bw ps w.heap.size w wr i v bs) (fun _ k _ => n - (intOf k).toNat)
  case atStart => exact ⟨0, _, [], by omega, rfl, rfl, World.ownsRow_nil _ _ _ _, Below.refl _ _, by simp, fun _ f => (by have := f.1; omega), by simp, fun _ => ⟨rfl, rfl⟩, by omega⟩
  case round =>
    obtain ⟨i, v, bs, hin, rfl, rfl, bw⟩ := hrel
    by_cases hlt : i < n
    · have hlt' : (i : Int) < n := by omega
      go_wp2
      go_loopw [5] (fun t wx => ∃ r : Nat, 1 ≤ r ∧ i + r ≤ n ∧ t = .int .i64 r ∧ (∀ t, 1 ≤ t → t < r → Fol ps (i + t)) ∧ pz ps (i + r - 1) = wrap64 (pz ps i + (r - 1 : Nat)) ∧ ∃ m, wx = wr.drewN m) (fun t _ => n - (intOf t).toNat)
      case atStart => exact ⟨1, by omega, by omega, rfl, by omega, by have := h.rng i; simp; unfold wrap64; omega, 0, rfl⟩
      case round =>
        obtain ⟨r, hr1, hr2, rfl, hch, hlast, mx, rfl⟩ := hrel
        obtain ⟨b, o, rfl, hc⟩ := h.cell i hlt
        have q0 := cell_below bw.bel (hc i hlt)
        have HL := hide hlast
        have HF := fol_of hr1 hlast
        clear hlast
        by_cases hl2 : i + r < n
        · have q1 := cell_below bw.bel (hc (i + r) hl2)
          have d1 : decide (i + r < n) = true := by simpa using hl2
          have d2 : decide ((i : Int) + (r : Int) < (n : Int)) = true := by simp; omega
          have i1 : (0 : Int) ≤ (i : Int) + (r : Int) := by omega
          have i2 : (i : Int) + (r : Int) < (n : Int) := by omega
          by_cases ht : pz ps (i + r) = wrap64 (pz ps i + (r : Nat))
          · have e1 : (pz ps (i + r) == wrap64 (pz ps i + (r : Int))) = true := by simpa using ht
            have HT := hide ht
            have hfol := HF.2 ht
            clear HF ht
            go_wp2
            go_quiet (fail)
            go_wp2
            go_roundw
            case rel =>
              refine ⟨r + 1, by omega, by omega, by go_num, fun t h1 h2 => ?_, ?_, _, by first | rfl | exact World.drewN_drewN ..⟩
              · rcases Nat.lt_succ_iff_lt_or_eq.1 h2 with e | rfl
                · exact hch t h1 e
                · exact hfol
              · rw [show i + (r + 1) - 1 = i + r from by omega, show r + 1 - 1 = r from by omega]; exact HT.out
            case measure => simp [intOf]; omega
          · have e1 : (pz ps (i + r) == wrap64 (pz ps i + (r : Int))) = false := by simpa using ht
            have hnf : ¬ Fol ps (i + r) := fun f => ht (HF.1 f)
            clear HF ht
            go_wp2
            go_quiet (fail)
            have OWN : ((wr.drewN mx).drewN nq).ownsRow w.heap.size 5 1 u3 bs.length (Lib.byteCells bs) := bw.own
            have BEL : Below w.heap.size w ((wr.drewN mx).drewN nq) := below_drewN (below_drewN bw.bel _) _
            have hbrk : i + r < ps.length → ¬ Fol ps (i + r) := fun _ => hnf
            clear q0
            generalize (wr.drewN mx).drewN nq = W at OWN BEL ⊢
            have q0 := cell_below BEL (hc i hlt)
            by_cases hi0 : i = 0
            · by_cases hrr : 1 < r
              · have hS := S_run i r hr1 (by have := h.len; omega) (bw.brk (by have := h.len; omega)) hch (by have := h.len; exact fun _ => hnf)
                rw [if_neg (show ¬ r = 1 by omega)] at hS
                obtain ⟨hv, hbs⟩ := bw.zero hi0
                rw [if_pos hi0] at hS
                clear hi0
                have HEQ := hide bw.eq
                have HS := hide hS
                clear bw hS
                subst hv hbs
                have OWN1 : W.ownsRow w.heap.size 5 1 (.slice none 0 0) 0 (Lib.byteCells ([] : List UInt8)) := OWN
                have BEL1 := BEL
                have la := Lib.itoa_length_le (pz ps i) (h.rng i).1 (h.rng i).2
                have hpi := itoa_pos (pz ps i)
                go_wp2_with fail
                refine (Tryd.strconv_AppendInt_10 w.heap.size 0 (pz ps i) (h.rng i).1 (h.rng i).2 (.slice none 0 0) (Lib.byteCells ([] : List UInt8)) _ (by exact OWN1) (by exact BEL1.size) (by omega) (by exact hT.on BEL1)).mono ?_
                rintro e W2 ⟨v2, rfl, own2, bel2, -⟩
                have BEL2 := BEL1.trans bel2
                obtain ⟨l2, hl2e⟩ : ∃ l, l = ([] : List UInt8) ++ Lib.itoa (pz ps i) := ⟨_, rfl⟩
                have e1 : l2.length = 0 + (Lib.itoa (pz ps i)).length := by rw [hl2e]; simp <;> omega
                have e2 : Lib.byteCells l2 = Lib.byteCells ([] : List UInt8) ++ Lib.byteCells (Lib.itoa (pz ps i)) := by rw [hl2e, Lib.byteCells_append]
                rw [← e2, ← e1] at own2
                have hlen2 : l2.length ≤ 44 * i + 22 := by omega
                have hp2 : 0 < l2.length := by omega
                have HL2 := hide hl2e
                clear hl2e e1 e2 la hpi
                have bsz2 := BEL2.size
                have hrm : (1 : Int) < (r : Int) := by omega
                obtain ⟨gv, capv, hv2, _, _⟩ := own2.form hp2
                subst hv2
                go_wp2_with (at_builtin; refine wpList_append_lies _ rfl _ _ _ rfl w.heap.size 5 i0 (.int .u8 0) 1 1 Tryd.underlying27 hi hz0 hz1 hz2 rfl (by omega) (.slice (some ⟨gv, 0, none⟩) l2.length capv) l2.length (Lib.byteCells l2) rfl (by exact World.ownsRow.alloc own2 _) ⟨W2.heap.size, 0, none⟩ 1 1 [.int .u8 45] rfl rfl (by exact news1 _ _ rfl _) (by exact one1 _) (by omega) (by unfold maxLen; omega) (by omega) (by simp; have := BEL2.size; omega) (W2.heap.size + 1) (by simp) ?_)
                intro g3 cap3 W3 hown3 hgrow3 hat3 hlt3
                have BEL3 : Below w.heap.size w W3 := (BEL2.alloc BEL2.size _).grown hgrow3 (by simp; omega) (fun k hk => (own2.lt k hk).1)
                have OWN3 : W3.ownsRow w.heap.size 5 1 (.slice (some ⟨g3, 0, none⟩) (l2.length + 1) cap3) (l2.length + 1) (Lib.byteCells (l2 ++ [45])) := by rw [byteCells_snoc]; exact hown3
                have q3 := cell_below BEL3 (hc (i + r - 1) (by omega))
                clear hown3 hgrow3 hat3
                have j1 : (0 : Int) ≤ (i : Int) + (r : Int) - 1 := by omega
                have j2 : (i : Int) + (r : Int) - 1 < (n : Int) := by omega
                have lb := Lib.itoa_length_le (pz ps (i + r - 1)) (h.rng _).1 (h.rng _).2
                go_wp2_with fail
                refine (Tryd.strconv_AppendInt_10 w.heap.size (l2.length + 1) (pz ps (i + r - 1)) (h.rng _).1 (h.rng _).2 (.slice (some ⟨g3, 0, none⟩) (l2.length + 1) cap3) (Lib.byteCells (l2 ++ [45])) _ (by exact OWN3) (by exact BEL3.size) (by omega) (by exact hT.on BEL3)).mono ?_
                rintro e W4 ⟨v4, rfl, own4, bel4, -⟩
                have BEL4 := BEL3.trans bel4
                obtain ⟨l4, hl4e⟩ : ∃ l, l = (l2 ++ [45]) ++ Lib.itoa (pz ps (i + r - 1)) := ⟨_, rfl⟩
                have e1 : l4.length = (l2.length + 1) + (Lib.itoa (pz ps (i + r - 1))).length := by rw [hl4e]; simp <;> omega
                have e2 : Lib.byteCells l4 = Lib.byteCells (l2 ++ [45]) ++ Lib.byteCells (Lib.itoa (pz ps (i + r - 1))) := by rw [hl4e, Lib.byteCells_append]
                rw [← e2, ← e1] at own4
                have hlen4 : l4.length ≤ 44 * i + 44 := by omega
                have hp4 : 0 < l4.length := by omega
                have HL4 := hide hl4e
                clear hl4e e1 e2 lb
                go_wp2_with fail
                go_roundw
                case rel =>
                  refine ⟨i + r, v4, l4, by omega, by go_num, rfl, own4, BEL4, ?_, hbrk, by omega, by omega, fun _ => hp4⟩
                  have t := HEQ.out; rw [HS.out] at t; rw [HL4.out, HL2.out, ← t]; simp
                case measure => simp [intOf]; omega
              · have hS := S_run i r hr1 (by have := h.len; omega) (bw.brk (by have := h.len; omega)) hch (by have := h.len; exact fun _ => hnf)
                rw [if_pos (show r = 1 by omega)] at hS
                have hrm : ¬ (1 : Int) < (r : Int) := by omega
                obtain ⟨hv, hbs⟩ := bw.zero hi0
                rw [if_pos hi0] at hS
                clear hi0
                have HEQ := hide bw.eq
                have HS := hide hS
                clear bw hS
                subst hv hbs
                have OWN1 : W.ownsRow w.heap.size 5 1 (.slice none 0 0) 0 (Lib.byteCells ([] : List UInt8)) := OWN
                have BEL1 := BEL
                have la := Lib.itoa_length_le (pz ps i) (h.rng i).1 (h.rng i).2
                have hpi := itoa_pos (pz ps i)
                go_wp2_with fail
                refine (Tryd.strconv_AppendInt_10 w.heap.size 0 (pz ps i) (h.rng i).1 (h.rng i).2 (.slice none 0 0) (Lib.byteCells ([] : List UInt8)) _ (by exact OWN1) (by exact BEL1.size) (by omega) (by exact hT.on BEL1)).mono ?_
                rintro e W2 ⟨v2, rfl, own2, bel2, -⟩
                have BEL2 := BEL1.trans bel2
                obtain ⟨l2, hl2e⟩ : ∃ l, l = ([] : List UInt8) ++ Lib.itoa (pz ps i) := ⟨_, rfl⟩
                have e1 : l2.length = 0 + (Lib.itoa (pz ps i)).length := by rw [hl2e]; simp <;> omega
                have e2 : Lib.byteCells l2 = Lib.byteCells ([] : List UInt8) ++ Lib.byteCells (Lib.itoa (pz ps i)) := by rw [hl2e, Lib.byteCells_append]
                rw [← e2, ← e1] at own2
                have hlen2 : l2.length ≤ 44 * i + 22 := by omega
                have hp2 : 0 < l2.length := by omega
                have HL2 := hide hl2e
                clear hl2e e1 e2 la hpi
                go_wp2_with fail
                go_roundw
                case rel =>
                  refine ⟨i + r, v2, l2, by omega, by go_num, rfl, own2, BEL2, ?_, hbrk, by omega, by omega, fun _ => hp2⟩
                  have t := HEQ.out; rw [HS.out] at t; rw [HL2.out, ← t]; simp
                case measure => simp [intOf]; omega
            · by_cases hrr : 1 < r
              · have hS := S_run i r hr1 (by have := h.len; omega) (bw.brk (by have := h.len; omega)) hch (by have := h.len; exact fun _ => hnf)
                rw [if_neg (show ¬ r = 1 by omega)] at hS
                rw [if_neg hi0] at hS
                have hp := bw.pos (by omega)
                obtain ⟨g, cap, hv, hgB, hgW⟩ := OWN.form hp
                have LB := bw.len
                have HEQ := hide bw.eq
                have HS := hide hS
                clear bw hS
                subst hv
                have hl0 : (0 : Int) < (bs.length : Int) := by omega
                have bszW := BEL.size
                go_wp2_with (at_builtin; refine wpList_append_lies _ rfl _ _ _ rfl w.heap.size 5 i0 (.int .u8 0) 1 1 Tryd.underlying27 hi hz0 hz1 hz2 rfl (by omega) (.slice (some ⟨g, 0, none⟩) bs.length cap) bs.length (Lib.byteCells bs) rfl (by exact World.ownsRow.alloc OWN _) ⟨W.heap.size, 0, none⟩ 1 1 [.int .u8 44] rfl rfl (by exact news1 _ _ rfl _) (by exact one1 _) (by omega) (by unfold maxLen; omega) (by omega) (by simp; have := BEL.size; omega) (W.heap.size + 1) (by simp) ?_)
                intro g1 cap1 W1 hown1 hgrow1 hat1 hlt1
                have BEL1 : Below w.heap.size w W1 := (BEL.alloc BEL.size _).grown hgrow1 (by simp; omega) (fun k hk => (OWN.lt k hk).1)
                have OWN1 : W1.ownsRow w.heap.size 5 1 (.slice (some ⟨g1, 0, none⟩) (bs.length + 1) cap1) (bs.length + 1) (Lib.byteCells (bs ++ [44])) := by rw [byteCells_snoc]; exact hown1
                have q0 := cell_below BEL1 (hc i hlt)
                clear hown1 hgrow1 hat1
                have la := Lib.itoa_length_le (pz ps i) (h.rng i).1 (h.rng i).2
                have hpi := itoa_pos (pz ps i)
                go_wp2_with fail
                refine (Tryd.strconv_AppendInt_10 w.heap.size (bs.length + 1) (pz ps i) (h.rng i).1 (h.rng i).2 (.slice (some ⟨g1, 0, none⟩) (bs.length + 1) cap1) (Lib.byteCells (bs ++ [44])) _ (by exact OWN1) (by exact BEL1.size) (by omega) (by exact hT.on BEL1)).mono ?_
                rintro e W2 ⟨v2, rfl, own2, bel2, -⟩
                have BEL2 := BEL1.trans bel2
                obtain ⟨l2, hl2e⟩ : ∃ l, l = (bs ++ [44]) ++ Lib.itoa (pz ps i) := ⟨_, rfl⟩
                have e1 : l2.length = (bs.length + 1) + (Lib.itoa (pz ps i)).length := by rw [hl2e]; simp <;> omega
                have e2 : Lib.byteCells l2 = Lib.byteCells (bs ++ [44]) ++ Lib.byteCells (Lib.itoa (pz ps i)) := by rw [hl2e, Lib.byteCells_append]
                rw [← e2, ← e1] at own2
                have hlen2 : l2.length ≤ 44 * i + 22 := by omega
                have hp2 : 0 < l2.length := by omega
                have HL2 := hide hl2e
                clear hl2e e1 e2 la hpi
                have bsz2 := BEL2.size
                have hrm : (1 : Int) < (r : Int) := by omega
                obtain ⟨gv, capv, hv2, _, _⟩ := own2.form hp2
                subst hv2
                go_wp2_with (at_builtin; refine wpList_append_lies _ rfl _ _ _ rfl w.heap.size 5 i0 (.int .u8 0) 1 1 Tryd.underlying27 hi hz0 hz1 hz2 rfl (by omega) (.slice (some ⟨gv, 0, none⟩) l2.length capv) l2.length (Lib.byteCells l2) rfl (by exact World.ownsRow.alloc own2 _) ⟨W2.heap.size, 0, none⟩ 1 1 [.int .u8 45] rfl rfl (by exact news1 _ _ rfl _) (by exact one1 _) (by omega) (by unfold maxLen; omega) (by omega) (by simp; have := BEL2.size; omega) (W2.heap.size + 1) (by simp) ?_)
                intro g3 cap3 W3 hown3 hgrow3 hat3 hlt3
                have BEL3 : Below w.heap.size w W3 := (BEL2.alloc BEL2.size _).grown hgrow3 (by simp; omega) (fun k hk => (own2.lt k hk).1)
                have OWN3 : W3.ownsRow w.heap.size 5 1 (.slice (some ⟨g3, 0, none⟩) (l2.length + 1) cap3) (l2.length + 1) (Lib.byteCells (l2 ++ [45])) := by rw [byteCells_snoc]; exact hown3
                have q3 := cell_below BEL3 (hc (i + r - 1) (by omega))
                clear hown3 hgrow3 hat3
                have j1 : (0 : Int) ≤ (i : Int) + (r : Int) - 1 := by omega
                have j2 : (i : Int) + (r : Int) - 1 < (n : Int) := by omega
                have lb := Lib.itoa_length_le (pz ps (i + r - 1)) (h.rng _).1 (h.rng _).2
                go_wp2_with fail
                refine (Tryd.strconv_AppendInt_10 w.heap.size (l2.length + 1) (pz ps (i + r - 1)) (h.rng _).1 (h.rng _).2 (.slice (some ⟨g3, 0, none⟩) (l2.length + 1) cap3) (Lib.byteCells (l2 ++ [45])) _ (by exact OWN3) (by exact BEL3.size) (by omega) (by exact hT.on BEL3)).mono ?_
                rintro e W4 ⟨v4, rfl, own4, bel4, -⟩
                have BEL4 := BEL3.trans bel4
                obtain ⟨l4, hl4e⟩ : ∃ l, l = (l2 ++ [45]) ++ Lib.itoa (pz ps (i + r - 1)) := ⟨_, rfl⟩
                have e1 : l4.length = (l2.length + 1) + (Lib.itoa (pz ps (i + r - 1))).length := by rw [hl4e]; simp <;> omega
                have e2 : Lib.byteCells l4 = Lib.byteCells (l2 ++ [45]) ++ Lib.byteCells (Lib.itoa (pz ps (i + r - 1))) := by rw [hl4e, Lib.byteCells_append]
                rw [← e2, ← e1] at own4
                have hlen4 : l4.length ≤ 44 * i + 44 := by omega
                have hp4 : 0 < l4.length := by omega
                have HL4 := hide hl4e
                clear hl4e e1 e2 lb
                go_wp2_with fail
                go_roundw
                case rel =>
                  refine ⟨i + r, v4, l4, by omega, by go_num, rfl, own4, BEL4, ?_, hbrk, by omega, by omega, fun _ => hp4⟩
                  have t := HEQ.out; rw [HS.out] at t; rw [HL4.out, HL2.out, ← t]; simp
                case measure => simp [intOf]; omega
              · have hS := S_run i r hr1 (by have := h.len; omega) (bw.brk (by have := h.len; omega)) hch (by have := h.len; exact fun _ => hnf)
                rw [if_pos (show r = 1 by omega)] at hS
                have hrm : ¬ (1 : Int) < (r : Int) := by omega
                rw [if_neg hi0] at hS
                have hp := bw.pos (by omega)
                obtain ⟨g, cap, hv, hgB, hgW⟩ := OWN.form hp
                have LB := bw.len
                have HEQ := hide bw.eq
                have HS := hide hS
                clear bw hS
                subst hv
                have hl0 : (0 : Int) < (bs.length : Int) := by omega
                have bszW := BEL.size
                go_wp2_with (at_builtin; refine wpList_append_lies _ rfl _ _ _ rfl w.heap.size 5 i0 (.int .u8 0) 1 1 Tryd.underlying27 hi hz0 hz1 hz2 rfl (by omega) (.slice (some ⟨g, 0, none⟩) bs.length cap) bs.length (Lib.byteCells bs) rfl (by exact World.ownsRow.alloc OWN _) ⟨W.heap.size, 0, none⟩ 1 1 [.int .u8 44] rfl rfl (by exact news1 _ _ rfl _) (by exact one1 _) (by omega) (by unfold maxLen; omega) (by omega) (by simp; have := BEL.size; omega) (W.heap.size + 1) (by simp) ?_)
                intro g1 cap1 W1 hown1 hgrow1 hat1 hlt1
                have BEL1 : Below w.heap.size w W1 := (BEL.alloc BEL.size _).grown hgrow1 (by simp; omega) (fun k hk => (OWN.lt k hk).1)
                have OWN1 : W1.ownsRow w.heap.size 5 1 (.slice (some ⟨g1, 0, none⟩) (bs.length + 1) cap1) (bs.length + 1) (Lib.byteCells (bs ++ [44])) := by rw [byteCells_snoc]; exact hown1
                have q0 := cell_below BEL1 (hc i hlt)
                clear hown1 hgrow1 hat1
                have la := Lib.itoa_length_le (pz ps i) (h.rng i).1 (h.rng i).2
                have hpi := itoa_pos (pz ps i)
                go_wp2_with fail
                refine (Tryd.strconv_AppendInt_10 w.heap.size (bs.length + 1) (pz ps i) (h.rng i).1 (h.rng i).2 (.slice (some ⟨g1, 0, none⟩) (bs.length + 1) cap1) (Lib.byteCells (bs ++ [44])) _ (by exact OWN1) (by exact BEL1.size) (by omega) (by exact hT.on BEL1)).mono ?_
                rintro e W2 ⟨v2, rfl, own2, bel2, -⟩
                have BEL2 := BEL1.trans bel2
                obtain ⟨l2, hl2e⟩ : ∃ l, l = (bs ++ [44]) ++ Lib.itoa (pz ps i) := ⟨_, rfl⟩
                have e1 : l2.length = (bs.length + 1) + (Lib.itoa (pz ps i)).length := by rw [hl2e]; simp <;> omega
                have e2 : Lib.byteCells l2 = Lib.byteCells (bs ++ [44]) ++ Lib.byteCells (Lib.itoa (pz ps i)) := by rw [hl2e, Lib.byteCells_append]
                rw [← e2, ← e1] at own2
                have hlen2 : l2.length ≤ 44 * i + 22 := by omega
                have hp2 : 0 < l2.length := by omega
                have HL2 := hide hl2e
                clear hl2e e1 e2 la hpi
                go_wp2_with fail
                go_roundw
                case rel =>
                  refine ⟨i + r, v2, l2, by omega, by go_num, rfl, own2, BEL2, ?_, hbrk, by omega, by omega, fun _ => hp2⟩
                  have t := HEQ.out; rw [HS.out] at t; rw [HL2.out, ← t]; simp
                case measure => simp [intOf]; omega
        · have d1 : decide (i + r < n) = false := by simpa using hl2
          have d2 : decide ((i : Int) + (r : Int) < (n : Int)) = false := by simp; omega
          clear HF
          go_wp2
          go_quiet (fail)
          have OWN : ((wr.drewN mx).drewN nq).ownsRow w.heap.size 5 1 u3 bs.length (Lib.byteCells bs) := bw.own
          have BEL : Below w.heap.size w ((wr.drewN mx).drewN nq) := below_drewN (below_drewN bw.bel _) _
          have hbrk : i + r < ps.length → ¬ Fol ps (i + r) := by have := h.len; omega
          clear q0
          generalize (wr.drewN mx).drewN nq = W at OWN BEL ⊢
          have q0 := cell_below BEL (hc i hlt)
          by_cases hi0 : i = 0
          · by_cases hrr : 1 < r
            · have hS := S_run i r hr1 (by have := h.len; omega) (bw.brk (by have := h.len; omega)) hch (by have := h.len; omega)
              rw [if_neg (show ¬ r = 1 by omega)] at hS
              obtain ⟨hv, hbs⟩ := bw.zero hi0
              rw [if_pos hi0] at hS
              clear hi0
              have HEQ := hide bw.eq
              have HS := hide hS
              clear bw hS
              subst hv hbs
              have OWN1 : W.ownsRow w.heap.size 5 1 (.slice none 0 0) 0 (Lib.byteCells ([] : List UInt8)) := OWN
              have BEL1 := BEL
              have la := Lib.itoa_length_le (pz ps i) (h.rng i).1 (h.rng i).2
              have hpi := itoa_pos (pz ps i)
              go_wp2_with fail
              refine (Tryd.strconv_AppendInt_10 w.heap.size 0 (pz ps i) (h.rng i).1 (h.rng i).2 (.slice none 0 0) (Lib.byteCells ([] : List UInt8)) _ (by exact OWN1) (by exact BEL1.size) (by omega) (by exact hT.on BEL1)).mono ?_
              rintro e W2 ⟨v2, rfl, own2, bel2, -⟩
              have BEL2 := BEL1.trans bel2
              obtain ⟨l2, hl2e⟩ : ∃ l, l = ([] : List UInt8) ++ Lib.itoa (pz ps i) := ⟨_, rfl⟩
              have e1 : l2.length = 0 + (Lib.itoa (pz ps i)).length := by rw [hl2e]; simp <;> omega
              have e2 : Lib.byteCells l2 = Lib.byteCells ([] : List UInt8) ++ Lib.byteCells (Lib.itoa (pz ps i)) := by rw [hl2e, Lib.byteCells_append]
              rw [← e2, ← e1] at own2
              have hlen2 : l2.length ≤ 44 * i + 22 := by omega
              have hp2 : 0 < l2.length := by omega
              have HL2 := hide hl2e
              clear hl2e e1 e2 la hpi
              have bsz2 := BEL2.size
              have hrm : (1 : Int) < (r : Int) := by omega
              obtain ⟨gv, capv, hv2, _, _⟩ := own2.form hp2
              subst hv2
              go_wp2_with (at_builtin; refine wpList_append_lies _ rfl _ _ _ rfl w.heap.size 5 i0 (.int .u8 0) 1 1 Tryd.underlying27 hi hz0 hz1 hz2 rfl (by omega) (.slice (some ⟨gv, 0, none⟩) l2.length capv) l2.length (Lib.byteCells l2) rfl (by exact World.ownsRow.alloc own2 _) ⟨W2.heap.size, 0, none⟩ 1 1 [.int .u8 45] rfl rfl (by exact news1 _ _ rfl _) (by exact one1 _) (by omega) (by unfold maxLen; omega) (by omega) (by simp; have := BEL2.size; omega) (W2.heap.size + 1) (by simp) ?_)
              intro g3 cap3 W3 hown3 hgrow3 hat3 hlt3
              have BEL3 : Below w.heap.size w W3 := (BEL2.alloc BEL2.size _).grown hgrow3 (by simp; omega) (fun k hk => (own2.lt k hk).1)
              have OWN3 : W3.ownsRow w.heap.size 5 1 (.slice (some ⟨g3, 0, none⟩) (l2.length + 1) cap3) (l2.length + 1) (Lib.byteCells (l2 ++ [45])) := by rw [byteCells_snoc]; exact hown3
              have q3 := cell_below BEL3 (hc (i + r - 1) (by omega))
              clear hown3 hgrow3 hat3
              have j1 : (0 : Int) ≤ (i : Int) + (r : Int) - 1 := by omega
              have j2 : (i : Int) + (r : Int) - 1 < (n : Int) := by omega
              have lb := Lib.itoa_length_le (pz ps (i + r - 1)) (h.rng _).1 (h.rng _).2
              go_wp2_with fail
              refine (Tryd.strconv_AppendInt_10 w.heap.size (l2.length + 1) (pz ps (i + r - 1)) (h.rng _).1 (h.rng _).2 (.slice (some ⟨g3, 0, none⟩) (l2.length + 1) cap3) (Lib.byteCells (l2 ++ [45])) _ (by exact OWN3) (by exact BEL3.size) (by omega) (by exact hT.on BEL3)).mono ?_
              rintro e W4 ⟨v4, rfl, own4, bel4, -⟩
              have BEL4 := BEL3.trans bel4
              obtain ⟨l4, hl4e⟩ : ∃ l, l = (l2 ++ [45]) ++ Lib.itoa (pz ps (i + r - 1)) := ⟨_, rfl⟩
              have e1 : l4.length = (l2.length + 1) + (Lib.itoa (pz ps (i + r - 1))).length := by rw [hl4e]; simp <;> omega
              have e2 : Lib.byteCells l4 = Lib.byteCells (l2 ++ [45]) ++ Lib.byteCells (Lib.itoa (pz ps (i + r - 1))) := by rw [hl4e, Lib.byteCells_append]
              rw [← e2, ← e1] at own4
              have hlen4 : l4.length ≤ 44 * i + 44 := by omega
              have hp4 : 0 < l4.length := by omega
              have HL4 := hide hl4e
              clear hl4e e1 e2 lb
              go_wp2_with fail
              go_roundw
              case rel =>
                refine ⟨i + r, v4, l4, by omega, by go_num, rfl, own4, BEL4, ?_, hbrk, by omega, by omega, fun _ => hp4⟩
                have t := HEQ.out; rw [HS.out] at t; rw [HL4.out, HL2.out, ← t]; simp
              case measure => simp [intOf]; omega
            · have hS := S_run i r hr1 (by have := h.len; omega) (bw.brk (by have := h.len; omega)) hch (by have := h.len; omega)
              rw [if_pos (show r = 1 by omega)] at hS
              have hrm : ¬ (1 : Int) < (r : Int) := by omega
              obtain ⟨hv, hbs⟩ := bw.zero hi0
              rw [if_pos hi0] at hS
              clear hi0
              have HEQ := hide bw.eq
              have HS := hide hS
              clear bw hS
              subst hv hbs
              have OWN1 : W.ownsRow w.heap.size 5 1 (.slice none 0 0) 0 (Lib.byteCells ([] : List UInt8)) := OWN
              have BEL1 := BEL
              have la := Lib.itoa_length_le (pz ps i) (h.rng i).1 (h.rng i).2
              have hpi := itoa_pos (pz ps i)
              go_wp2_with fail
              refine (Tryd.strconv_AppendInt_10 w.heap.size 0 (pz ps i) (h.rng i).1 (h.rng i).2 (.slice none 0 0) (Lib.byteCells ([] : List UInt8)) _ (by exact OWN1) (by exact BEL1.size) (by omega) (by exact hT.on BEL1)).mono ?_
              rintro e W2 ⟨v2, rfl, own2, bel2, -⟩
              have BEL2 := BEL1.trans bel2
              obtain ⟨l2, hl2e⟩ : ∃ l, l = ([] : List UInt8) ++ Lib.itoa (pz ps i) := ⟨_, rfl⟩
              have e1 : l2.length = 0 + (Lib.itoa (pz ps i)).length := by rw [hl2e]; simp <;> omega
              have e2 : Lib.byteCells l2 = Lib.byteCells ([] : List UInt8) ++ Lib.byteCells (Lib.itoa (pz ps i)) := by rw [hl2e, Lib.byteCells_append]
              rw [← e2, ← e1] at own2
              have hlen2 : l2.length ≤ 44 * i + 22 := by omega
              have hp2 : 0 < l2.length := by omega
              have HL2 := hide hl2e
              clear hl2e e1 e2 la hpi
              go_wp2_with fail
              go_roundw
              case rel =>
                refine ⟨i + r, v2, l2, by omega, by go_num, rfl, own2, BEL2, ?_, hbrk, by omega, by omega, fun _ => hp2⟩
                have t := HEQ.out; rw [HS.out] at t; rw [HL2.out, ← t]; simp
              case measure => simp [intOf]; omega
          · by_cases hrr : 1 < r
            · have hS := S_run i r hr1 (by have := h.len; omega) (bw.brk (by have := h.len; omega)) hch (by have := h.len; omega)
              rw [if_neg (show ¬ r = 1 by omega)] at hS
              rw [if_neg hi0] at hS
              have hp := bw.pos (by omega)
              obtain ⟨g, cap, hv, hgB, hgW⟩ := OWN.form hp
              have LB := bw.len
              have HEQ := hide bw.eq
              have HS := hide hS
              clear bw hS
              subst hv
              have hl0 : (0 : Int) < (bs.length : Int) := by omega
              have bszW := BEL.size
              go_wp2_with (at_builtin; refine wpList_append_lies _ rfl _ _ _ rfl w.heap.size 5 i0 (.int .u8 0) 1 1 Tryd.underlying27 hi hz0 hz1 hz2 rfl (by omega) (.slice (some ⟨g, 0, none⟩) bs.length cap) bs.length (Lib.byteCells bs) rfl (by exact World.ownsRow.alloc OWN _) ⟨W.heap.size, 0, none⟩ 1 1 [.int .u8 44] rfl rfl (by exact news1 _ _ rfl _) (by exact one1 _) (by omega) (by unfold maxLen; omega) (by omega) (by simp; have := BEL.size; omega) (W.heap.size + 1) (by simp) ?_)
              intro g1 cap1 W1 hown1 hgrow1 hat1 hlt1
              have BEL1 : Below w.heap.size w W1 := (BEL.alloc BEL.size _).grown hgrow1 (by simp; omega) (fun k hk => (OWN.lt k hk).1)
              have OWN1 : W1.ownsRow w.heap.size 5 1 (.slice (some ⟨g1, 0, none⟩) (bs.length + 1) cap1) (bs.length + 1) (Lib.byteCells (bs ++ [44])) := by rw [byteCells_snoc]; exact hown1
              have q0 := cell_below BEL1 (hc i hlt)
              clear hown1 hgrow1 hat1
              have la := Lib.itoa_length_le (pz ps i) (h.rng i).1 (h.rng i).2
              have hpi := itoa_pos (pz ps i)
              go_wp2_with fail
              refine (Tryd.strconv_AppendInt_10 w.heap.size (bs.length + 1) (pz ps i) (h.rng i).1 (h.rng i).2 (.slice (some ⟨g1, 0, none⟩) (bs.length + 1) cap1) (Lib.byteCells (bs ++ [44])) _ (by exact OWN1) (by exact BEL1.size) (by omega) (by exact hT.on BEL1)).mono ?_
              rintro e W2 ⟨v2, rfl, own2, bel2, -⟩
              have BEL2 := BEL1.trans bel2
              obtain ⟨l2, hl2e⟩ : ∃ l, l = (bs ++ [44]) ++ Lib.itoa (pz ps i) := ⟨_, rfl⟩
              have e1 : l2.length = (bs.length + 1) + (Lib.itoa (pz ps i)).length := by rw [hl2e]; simp <;> omega
              have e2 : Lib.byteCells l2 = Lib.byteCells (bs ++ [44]) ++ Lib.byteCells (Lib.itoa (pz ps i)) := by rw [hl2e, Lib.byteCells_append]
              rw [← e2, ← e1] at own2
              have hlen2 : l2.length ≤ 44 * i + 22 := by omega
              have hp2 : 0 < l2.length := by omega
              have HL2 := hide hl2e
              clear hl2e e1 e2 la hpi
              have bsz2 := BEL2.size
              have hrm : (1 : Int) < (r : Int) := by omega
              obtain ⟨gv, capv, hv2, _, _⟩ := own2.form hp2
              subst hv2
              go_wp2_with (at_builtin; refine wpList_append_lies _ rfl _ _ _ rfl w.heap.size 5 i0 (.int .u8 0) 1 1 Tryd.underlying27 hi hz0 hz1 hz2 rfl (by omega) (.slice (some ⟨gv, 0, none⟩) l2.length capv) l2.length (Lib.byteCells l2) rfl (by exact World.ownsRow.alloc own2 _) ⟨W2.heap.size, 0, none⟩ 1 1 [.int .u8 45] rfl rfl (by exact news1 _ _ rfl _) (by exact one1 _) (by omega) (by unfold maxLen; omega) (by omega) (by simp; have := BEL2.size; omega) (W2.heap.size + 1) (by simp) ?_)
              intro g3 cap3 W3 hown3 hgrow3 hat3 hlt3
              have BEL3 : Below w.heap.size w W3 := (BEL2.alloc BEL2.size _).grown hgrow3 (by simp; omega) (fun k hk => (own2.lt k hk).1)
              have OWN3 : W3.ownsRow w.heap.size 5 1 (.slice (some ⟨g3, 0, none⟩) (l2.length + 1) cap3) (l2.length + 1) (Lib.byteCells (l2 ++ [45])) := by rw [byteCells_snoc]; exact hown3
              have q3 := cell_below BEL3 (hc (i + r - 1) (by omega))
              clear hown3 hgrow3 hat3
              have j1 : (0 : Int) ≤ (i : Int) + (r : Int) - 1 := by omega
              have j2 : (i : Int) + (r : Int) - 1 < (n : Int) := by omega
              have lb := Lib.itoa_length_le (pz ps (i + r - 1)) (h.rng _).1 (h.rng _).2
              go_wp2_with fail
              refine (Tryd.strconv_AppendInt_10 w.heap.size (l2.length + 1) (pz ps (i + r - 1)) (h.rng _).1 (h.rng _).2 (.slice (some ⟨g3, 0, none⟩) (l2.length + 1) cap3) (Lib.byteCells (l2 ++ [45])) _ (by exact OWN3) (by exact BEL3.size) (by omega) (by exact hT.on BEL3)).mono ?_
              rintro e W4 ⟨v4, rfl, own4, bel4, -⟩
              have BEL4 := BEL3.trans bel4
              obtain ⟨l4, hl4e⟩ : ∃ l, l = (l2 ++ [45]) ++ Lib.itoa (pz ps (i + r - 1)) := ⟨_, rfl⟩
              have e1 : l4.length = (l2.length + 1) + (Lib.itoa (pz ps (i + r - 1))).length := by rw [hl4e]; simp <;> omega
              have e2 : Lib.byteCells l4 = Lib.byteCells (l2 ++ [45]) ++ Lib.byteCells (Lib.itoa (pz ps (i + r - 1))) := by rw [hl4e, Lib.byteCells_append]
              rw [← e2, ← e1] at own4
              have hlen4 : l4.length ≤ 44 * i + 44 := by omega
              have hp4 : 0 < l4.length := by omega
              have HL4 := hide hl4e
              clear hl4e e1 e2 lb
              go_wp2_with fail
              go_roundw
              case rel =>
                refine ⟨i + r, v4, l4, by omega, by go_num, rfl, own4, BEL4, ?_, hbrk, by omega, by omega, fun _ => hp4⟩
                have t := HEQ.out; rw [HS.out] at t; rw [HL4.out, HL2.out, ← t]; simp
              case measure => simp [intOf]; omega
            · have hS := S_run i r hr1 (by have := h.len; omega) (bw.brk (by have := h.len; omega)) hch (by have := h.len; omega)
              rw [if_pos (show r = 1 by omega)] at hS
              have hrm : ¬ (1 : Int) < (r : Int) := by omega
              rw [if_neg hi0] at hS
              have hp := bw.pos (by omega)
              obtain ⟨g, cap, hv, hgB, hgW⟩ := OWN.form hp
              have LB := bw.len
              have HEQ := hide bw.eq
              have HS := hide hS
              clear bw hS
              subst hv
              have hl0 : (0 : Int) < (bs.length : Int) := by omega
              have bszW := BEL.size
              go_wp2_with (at_builtin; refine wpList_append_lies _ rfl _ _ _ rfl w.heap.size 5 i0 (.int .u8 0) 1 1 Tryd.underlying27 hi hz0 hz1 hz2 rfl (by omega) (.slice (some ⟨g, 0, none⟩) bs.length cap) bs.length (Lib.byteCells bs) rfl (by exact World.ownsRow.alloc OWN _) ⟨W.heap.size, 0, none⟩ 1 1 [.int .u8 44] rfl rfl (by exact news1 _ _ rfl _) (by exact one1 _) (by omega) (by unfold maxLen; omega) (by omega) (by simp; have := BEL.size; omega) (W.heap.size + 1) (by simp) ?_)
              intro g1 cap1 W1 hown1 hgrow1 hat1 hlt1
              have BEL1 : Below w.heap.size w W1 := (BEL.alloc BEL.size _).grown hgrow1 (by simp; omega) (fun k hk => (OWN.lt k hk).1)
              have OWN1 : W1.ownsRow w.heap.size 5 1 (.slice (some ⟨g1, 0, none⟩) (bs.length + 1) cap1) (bs.length + 1) (Lib.byteCells (bs ++ [44])) := by rw [byteCells_snoc]; exact hown1
              have q0 := cell_below BEL1 (hc i hlt)
              clear hown1 hgrow1 hat1
              have la := Lib.itoa_length_le (pz ps i) (h.rng i).1 (h.rng i).2
              have hpi := itoa_pos (pz ps i)
              go_wp2_with fail
              refine (Tryd.strconv_AppendInt_10 w.heap.size (bs.length + 1) (pz ps i) (h.rng i).1 (h.rng i).2 (.slice (some ⟨g1, 0, none⟩) (bs.length + 1) cap1) (Lib.byteCells (bs ++ [44])) _ (by exact OWN1) (by exact BEL1.size) (by omega) (by exact hT.on BEL1)).mono ?_
              rintro e W2 ⟨v2, rfl, own2, bel2, -⟩
              have BEL2 := BEL1.trans bel2
              obtain ⟨l2, hl2e⟩ : ∃ l, l = (bs ++ [44]) ++ Lib.itoa (pz ps i) := ⟨_, rfl⟩
              have e1 : l2.length = (bs.length + 1) + (Lib.itoa (pz ps i)).length := by rw [hl2e]; simp <;> omega
              have e2 : Lib.byteCells l2 = Lib.byteCells (bs ++ [44]) ++ Lib.byteCells (Lib.itoa (pz ps i)) := by rw [hl2e, Lib.byteCells_append]
              rw [← e2, ← e1] at own2
              have hlen2 : l2.length ≤ 44 * i + 22 := by omega
              have hp2 : 0 < l2.length := by omega
              have HL2 := hide hl2e
              clear hl2e e1 e2 la hpi
              go_wp2_with fail
              go_roundw
              case rel =>
                refine ⟨i + r, v2, l2, by omega, by go_num, rfl, own2, BEL2, ?_, hbrk, by omega, by omega, fun _ => hp2⟩
                have t := HEQ.out; rw [HS.out] at t; rw [HL2.out, ← t]; simp
              case measure => simp [intOf]; omega
    · have HE : Hid (bs = S ps 0) := by
        show bs = S ps 0
        have t := bw.eq
        rw [S_end (by have := h.len; omega), List.append_nil] at t
        exact t
      have BEL := bw.bel
      have hlt' : ¬ (i : Int) < n := by omega
      by_cases h0 : i = 0
      · obtain ⟨hv, hbs⟩ := bw.zero h0
        have HB := hide hbs
        clear bw h0 hbs
        subst hv
        have hcv : (convert 27 9 (.slice none 0 0)).run Tryd.prog wr = .ok (.string ⟨#[]⟩) wr := by
          rw [run_convert_bytes_string wr 27 9 5 none 0 0 Tryd.underlying27 Tryd.underlying5 Tryd.underlying9]; rfl
        go_wp2
        go_ret
        exact ⟨by rw [← HE.out, HB.out]; rfl, BEL⟩
      · have hp := bw.pos (by omega)
        have own := bw.own
        obtain ⟨g, cap, hv, _, _⟩ := own.form hp
        clear bw h0
        subst hv
        have hcv := run_convert_bytes_back (P := Tryd.prog) wr 27 9 5 ⟨g, 0, none⟩ cap bs Tryd.underlying27 Tryd.underlying5 Tryd.underlying9 (fun j hj => own.cells (g := g) rfl j _ (by simp [Lib.byteCells, hj]))
        go_wp2
        go_ret
        have e := HE.out
        subst e
        exact ⟨rfl, BEL⟩
end Go.Proofs.Qxb6605270aDoor
