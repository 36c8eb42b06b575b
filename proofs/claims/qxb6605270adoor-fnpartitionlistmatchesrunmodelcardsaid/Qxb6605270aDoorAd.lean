import Derived.Test.Qxb6605270aDoorCl
import Derived.OneCell
namespace Go.Proofs.Qxb6605270aDoor
open Go.RowKit Go.Shelf Go.Deep

theorem dec_big {u : Nat} (h : ¬ u < 10) : Lib.decDigits u = Lib.decDigits (u / 10) ++ [UInt8.ofNat (48 + u % 10)] := by rw [Lib.decDigits, dif_neg h]
theorem dec_one {u : Nat} (h : u < 10) : Lib.decDigits u = [UInt8.ofNat (48 + u)] := Lib.decDigits_one h

theorem digit_nat {d : Nat} (h : d < 10) : (UInt8.ofNat (48 + d)).toNat = 48 + d := by
  simp; omega

/-- The digits laid so far: at i .. 19 of the array lie the digits D; what is left is uc. -/
structure Dg (B N n u0 : Nat) (v : Value) (xs : List Value) (w wx : World) (uc i : Nat) (D : List UInt8) : Prop where
  row : ∃ f, wx.rowIs N 31 20 f ∧ ∀ j c, D[j]? = some c → f (i + j) = .int .u8 (c.toNat : Int)
  le : i ≤ 20
  len : D.length = 20 - i
  eq : Lib.decDigits u0 = Lib.decDigits uc ++ D
  bel : Below B w wx
  own : wx.ownsRow B 5 1 v n xs

theorem Dg.room {B N n u0 : Nat} {v : Value} {xs : List Value} {w wx : World} {uc i : Nat} {D : List UInt8} (h : Dg B N n u0 v xs w wx uc i D) (hu : u0 < 18446744073709551616) : Lib.nDigits uc ≤ i := by
  have e := congrArg List.length h.eq
  rw [List.length_append, Lib.decDigits_length, Lib.decDigits_length, h.len] at e
  have := Lib.nDigits_le20 u0 hu
  have := h.le
  omega

/-- One digit more. -/
theorem Dg.lay {B N n u0 : Nat} {v : Value} {xs : List Value} {w wx : World} {uc i : Nat} {D : List UInt8} (h : Dg B N n u0 v xs w wx uc i D) (hN : B ≤ N) (hv : v.ownBlock ≠ some N) (hi : 1 ≤ i) (d : UInt8) (uc' : Nat) (he : Lib.decDigits u0 = Lib.decDigits uc' ++ d :: D) :
    Dg B N n u0 v xs w (wx.setCell ⟨N, i - 1, none⟩ (.int .u8 (d.toNat : Int))) uc' (i - 1) (d :: D) := by
  obtain ⟨f, hr, hf⟩ := h.row
  have hle := h.le
  refine ⟨⟨_, hr.set (i - 1) _, fun j c hj => ?_⟩, by omega, by have := h.len; simp; omega, he, h.bel.setCell hN _, ownsRow_setCell_other h.own hv _⟩
  cases j with
  | zero =>
    simp at hj
    subst hj
    simp
  | succ j =>
    simp at hj
    have e : i - 1 + (j + 1) = i + j := by omega
    rw [e]
    show (if i + j = i - 1 then _ else f (i + j)) = _
    rw [if_neg (by omega)]
    exact hf j c hj

/-- The last digit: the whole numeral lies at k .. 19. -/
theorem Dg.last {B N n u0 : Nat} {v : Value} {xs : List Value} {w wx : World} {uc k : Nat} {D : List UInt8} (h : Dg B N n u0 v xs w wx uc (k + 1) D) (hN : B ≤ N) (hv : v.ownBlock ≠ some N) (hu : uc < 10) :
    ∃ f, (wx.setCell ⟨N, k, none⟩ (.int .u8 (48 + (uc : Int)))).rowIs N 31 20 f ∧ (∀ j c, (Lib.decDigits u0)[j]? = some c → f (k + j) = .int .u8 (c.toNat : Int)) ∧ k + (Lib.decDigits u0).length = 20 ∧
      Below B w (wx.setCell ⟨N, k, none⟩ (.int .u8 (48 + (uc : Int)))) ∧ (wx.setCell ⟨N, k, none⟩ (.int .u8 (48 + (uc : Int)))).ownsRow B 5 1 v n xs := by
  obtain ⟨f, hr, hf⟩ := h.row
  have hle := h.le
  have hd : Lib.decDigits u0 = UInt8.ofNat (48 + uc) :: D := by rw [h.eq, dec_one hu]; rfl
  refine ⟨_, hr.set k _, fun j c hj => ?_, by have := h.len; rw [hd]; simp; omega, h.bel.setCell hN _, ownsRow_setCell_other h.own hv _⟩
  rw [hd] at hj
  cases j with
  | zero =>
    obtain rfl : UInt8.ofNat (48 + uc) = c := Option.some.inj hj
    have e := digit_nat hu
    show (if k + 0 = k then Value.int .u8 (48 + (uc : Int)) else f (k + 0)) = _
    rw [if_pos (by omega), e]
    rfl
  | succ j =>
    simp at hj
    have e : k + (j + 1) = k + 1 + j := by omega
    rw [e]
    show (if k + 1 + j = k then _ else f (k + 1 + j)) = _
    rw [if_neg (by omega)]
    exact hf j c hj

theorem ad_row (w : World) : (w.alloc (.cells #[.int .u8 0, .int .u8 0, .int .u8 0, .int .u8 0, .int .u8 0, .int .u8 0, .int .u8 0, .int .u8 0, .int .u8 0, .int .u8 0, .int .u8 0, .int .u8 0, .int .u8 0, .int .u8 0, .int .u8 0, .int .u8 0, .int .u8 0, .int .u8 0, .int .u8 0, .int .u8 0] 31)).rowIs w.heap.size 31 20 (fun _ => .int .u8 0) :=
  World.rowIs_alloc w _ 31 _ (fun i hi => by
    have : i < 20 := hi
    rcases i with _ | _ | _ | _ | _ | _ | _ | _ | _ | _ | _ | _ | _ | _ | _ | _ | _ | _ | _ | _ | i <;> first | rfl | omega)

theorem Tryd.und31 : Tryd.prog.underlying 31 = some (.array 20 5) := by kernel_rfl
theorem Tryd.sizeByte : (Tryd.prog.info? 5).map (·.size) = some 1 := by kernel_rfl

theorem sl31 (W : World) (N k m : Nat) (h : k + m = 20) (hm : 0 < m) : (Instr.sliceAt 31 (.pointer (some ⟨N, 0, none⟩)) (some (.int .i64 (k : Int))) none none).run Tryd.prog W = .ok (.slice (some ⟨N, k, none⟩) m m) W := by
  obtain ⟨i0, hi, hz0, hz1, hz2⟩ := info_parts Tryd.infoByte
  obtain rfl : m = 20 - k := by omega
  have hk : (k : Int) ≤ 20 := by omega
  have hne : ¬ 20 = k := by omega
  simp [Instr.sliceAt, Instr.sureAddr, run_underlying Tryd.und31, Instr.sliceBounds, run_sliceBound, hk, sizeOf, typeInfo, hi, hz1, hne]
  by_cases z : k = 0
  · simp [Addr.add, z]
  · simp [Addr.add, z]

theorem ad_news {W : World} {N k : Nat} {f : Nat → Value} {l : List UInt8} (hr : W.rowIs N 31 20 f) (hl : k + l.length = 20) (hf : ∀ j c, l[j]? = some c → f (k + j) = .int .u8 (c.toNat : Int)) :
    ∀ j u, (Lib.byteCells l)[j]? = some u → W.cell? ((⟨N, k, none⟩ : Addr).add j) = some u := by
  intro j u hj
  simp [Lib.byteCells] at hj
  obtain ⟨c, hc, rfl⟩ := hj
  have hlt : j < l.length := (List.getElem?_eq_some_iff.1 hc).1
  have e := hr.cell (i := k + j) (by omega)
  rw [hf j c hc] at e
  rw [← e]
  by_cases z : j = 0
  · subst z; rfl
  · simp [Addr.add, z]

theorem byteCells_one (l : List UInt8) : ∀ u ∈ Lib.byteCells l, u.oneCell' = true := by
  intro u hu
  simp [Lib.byteCells] at hu
  obtain ⟨c, _, rfl⟩ := hu
  rfl

theorem neg_neg64 {u : Nat} (h : u ≤ 9223372036854775808) : IntKind.u64.wrap (-IntKind.u64.wrap (-(u : Int))) = u := by
  simp [IntKind.wrap, IntKind.bits, IntKind.signed]
  omega
set_option maxRecDepth 100000 in
set_option maxHeartbeats 4000000 in
theorem ad_pos (B n u0 : Nat) (h1 : (u0 : Int) ≤ 9223372036854775807) (v : Value) (xs : List Value) (w : World) (h : w.ownsRow B 5 1 v n xs) (hB : B ≤ w.heap.size) (hn : n ≤ 140737488355000) :
    Calls Tryd.prog 11 #[v, .int .i64 u0] w fun e w' => ∃ v', e = .returned v' ∧ w'.ownsRow B 5 1 v' (n + (Lib.decDigits u0).length) (xs ++ Lib.byteCells (Lib.decDigits u0)) ∧ Below B w w' := by
  obtain ⟨i0, hi, hz0, hz1, hz2⟩ := info_parts Tryd.infoByte
  have hv : v.ownBlock ≠ some w.heap.size := fun e => by have := (h.lt _ e).2; omega
  have hneg : ¬ (u0 : Int) < 0 := by omega
  have hu64 : u0 < 18446744073709551616 := by omega
  have hst : Dg B w.heap.size n u0 v xs w (w.alloc (.cells #[.int .u8 0, .int .u8 0, .int .u8 0, .int .u8 0, .int .u8 0, .int .u8 0, .int .u8 0, .int .u8 0, .int .u8 0, .int .u8 0, .int .u8 0, .int .u8 0, .int .u8 0, .int .u8 0, .int .u8 0, .int .u8 0, .int .u8 0, .int .u8 0, .int .u8 0, .int .u8 0] 31)) u0 20 [] :=
    ⟨⟨_, ad_row w, by simp⟩, by omega, rfl, by simp, (Below.refl _ _).alloc hB _, h.alloc _⟩
  have HST := hide hst
  clear hst
  go_enter Tryd.func11, Tryd.ntmps11
  go_wp2
  go_loopw [5, 7] (fun t5 t7 wx => ∃ (uc i : Nat) (D : List UInt8), t5 = .int .u64 uc ∧ t7 = .int .i64 i ∧ uc ≤ u0 ∧ Dg B w.heap.size n u0 v xs w wx uc i D) (fun t5 _ _ => (intOf t5).toNat)
  case atStart => exact ⟨u0, 20, [], rfl, rfl, Nat.le_refl _, HST.out⟩
  case round =>
    obtain ⟨uc, i, D, rfl, rfl, huc, dg⟩ := hrel
    have hroom := dg.room hu64
    have hpos := Lib.nDigits_pos uc
    obtain ⟨k, rfl⟩ : ∃ k, i = k + 1 := ⟨i - 1, by omega⟩
    have hle := dg.le
    obtain ⟨f, hrow, hf⟩ := dg.row
    have hcell := hrow.cell (i := k) (by omega)
    have hfro := hrow.frozen k
    by_cases hten : uc < 10
    · have ht : ¬ (10 : Int) ≤ (uc : Int) := by omega
      obtain ⟨f2, row2, hf2, hlen2, BEL2, OWN2⟩ := dg.last (by omega) hv hten
      obtain ⟨l, hl⟩ : ∃ l, l = Lib.decDigits u0 := ⟨_, rfl⟩
      rw [← hl] at hf2 hlen2
      have hm0 : 0 < l.length := by omega
      have hsl := fun W => sl31 W w.heap.size k l.length hlen2 hm0
      have hnew := hide (ad_news row2 hlen2 hf2)
      have HL := hide hl
      have OWN3 := hide OWN2
      have bsz := BEL2.size
      clear dg hroom hpos hf hf2 hl row2 OWN2
      go_wp2_with (at_builtin; refine wpList_append_lies _ rfl _ _ _ rfl B 5 i0 (.int .u8 0) 1 1 Tryd.underlying27 hi hz0 hz1 hz2 rfl (by omega) v n xs rfl (by exact OWN3.out) ⟨w.heap.size, k, none⟩ l.length l.length (Lib.byteCells l) rfl (by simp [Lib.byteCells]) (by exact hnew.out) (byteCells_one _) (by omega) (by unfold maxLen; omega) (by omega) (by omega) _ rfl ?_)
      intro g3 cap3 W3 hown3 hgrow3 hat3 hlt3
      have BEL3 : Below B w W3 := BEL2.grown hgrow3 (by omega) (fun k hk => (OWN3.out.lt k hk).1)
      clear hgrow3 hat3
      have OWN4 := hide hown3
      clear hown3
      go_wp2
      go_ret
      have e := HL.out
      subst e
      exact ⟨_, rfl, OWN4.out, BEL3⟩
    · have ht : (10 : Int) ≤ (uc : Int) := by omega
      have hroom2 : 1 ≤ k := by rw [Lib.nDigits_big hten] at hroom; have := Lib.nDigits_pos (uc / 10); omega
      have hdg := dg.lay (by omega) hv (by omega) (UInt8.ofNat (48 + uc % 10)) (uc / 10) (by rw [dg.eq, dec_big hten]; simp)
      rw [digit_nat (show uc % 10 < 10 by omega)] at hdg
      have HDG := hide hdg
      clear dg hdg hroom hpos hf
      go_wp2
      go_roundw
      case rel => exact ⟨uc / 10, k, _, by go_num, by go_num, by omega, HDG.out⟩
      case measure => simp [intOf]; omega

set_option maxRecDepth 100000 in
set_option maxHeartbeats 4000000 in
theorem ad_neg (B n u0 : Nat) (h0 : 1 ≤ u0) (h1 : u0 ≤ 9223372036854775808) (v : Value) (xs : List Value) (w : World) (h : w.ownsRow B 5 1 v n xs) (hB : B ≤ w.heap.size) (hn : n ≤ 140737488355000) :
    Calls Tryd.prog 11 #[v, .int .i64 (-(u0 : Int))] w fun e w' => ∃ v', e = .returned v' ∧ w'.ownsRow B 5 1 v' (n + 1 + (Lib.decDigits u0).length) (xs ++ .int .u8 45 :: Lib.byteCells (Lib.decDigits u0)) ∧ Below B w w' := by
  obtain ⟨i0, hi, hz0, hz1, hz2⟩ := info_parts Tryd.infoByte
  have hneg : -(u0 : Int) < 0 := by omega
  have hu64 : u0 < 18446744073709551616 := by omega
  go_enter Tryd.func11, Tryd.ntmps11
  go_wp2_with (at_builtin; refine wpList_append_lies _ rfl _ _ _ rfl B 5 i0 (.int .u8 0) 1 1 Tryd.underlying27 hi hz0 hz1 hz2 rfl (by omega) v n xs rfl (by exact World.ownsRow.alloc h _) ⟨w.heap.size, 0, none⟩ 1 1 [.int .u8 45] rfl rfl (by exact news1 _ _ rfl _) (by exact one1 _) (by omega) (by unfold maxLen; omega) (by omega) (by simp; omega) (w.heap.size + 1) (by simp) ?_)
  intro g1 cap1 W1 hown1 hgrow1 hat1 hlt1
  have BEL1 : Below B w W1 := ((Below.refl B w).alloc hB _).grown hgrow1 (by simp; omega) (fun k hk => (h.lt k hk).1)
  have bsz1 := BEL1.size
  clear hgrow1 hat1
  have hv : (Value.slice (some ⟨g1, 0, none⟩) (n + 1) cap1).ownBlock ≠ some W1.heap.size := fun e => by have := (hown1.lt _ e).2; omega
  have hst : Dg B W1.heap.size (n + 1) u0 (.slice (some ⟨g1, 0, none⟩) (n + 1) cap1) (xs ++ [.int .u8 45]) w (W1.alloc (.cells #[.int .u8 0, .int .u8 0, .int .u8 0, .int .u8 0, .int .u8 0, .int .u8 0, .int .u8 0, .int .u8 0, .int .u8 0, .int .u8 0, .int .u8 0, .int .u8 0, .int .u8 0, .int .u8 0, .int .u8 0, .int .u8 0, .int .u8 0, .int .u8 0, .int .u8 0, .int .u8 0] 31)) u0 20 [] :=
    ⟨⟨_, ad_row W1, by simp⟩, by omega, rfl, by simp, BEL1.alloc (by omega) _, World.ownsRow.alloc hown1 _⟩
  have HST := hide hst
  have HV := hide hv
  clear hst hown1 hv
  go_wp2
  go_loopw [5, 7] (fun t5 t7 wx => ∃ (uc i : Nat) (D : List UInt8), t5 = .int .u64 uc ∧ t7 = .int .i64 i ∧ uc ≤ u0 ∧ Dg B W1.heap.size (n + 1) u0 (.slice (some ⟨g1, 0, none⟩) (n + 1) cap1) (xs ++ [.int .u8 45]) w wx uc i D) (fun t5 _ _ => (intOf t5).toNat)
  case atStart => exact ⟨u0, 20, [], (by rw [neg_neg64 h1]), rfl, Nat.le_refl _, HST.out⟩
  case round =>
    obtain ⟨uc, i, D, rfl, rfl, huc, dg⟩ := hrel
    have hroom := dg.room hu64
    have hpos := Lib.nDigits_pos uc
    obtain ⟨k, rfl⟩ : ∃ k, i = k + 1 := ⟨i - 1, by omega⟩
    have hle := dg.le
    obtain ⟨f, hrow, hf⟩ := dg.row
    have hcell := hrow.cell (i := k) (by omega)
    have hfro := hrow.frozen k
    by_cases hten : uc < 10
    · have ht : ¬ (10 : Int) ≤ (uc : Int) := by omega
      obtain ⟨f2, row2, hf2, hlen2, BEL2, OWN2⟩ := dg.last (by omega) HV.out hten
      obtain ⟨l, hl⟩ : ∃ l, l = Lib.decDigits u0 := ⟨_, rfl⟩
      rw [← hl] at hf2 hlen2
      have hm0 : 0 < l.length := by omega
      have hsl := fun W => sl31 W W1.heap.size k l.length hlen2 hm0
      have hnew := hide (ad_news row2 hlen2 hf2)
      have HL := hide hl
      have OWN3 := hide OWN2
      have bsz := BEL2.size
      clear dg hroom hpos hf hf2 hl row2 OWN2
      go_wp2_with (at_builtin; refine wpList_append_lies _ rfl _ _ _ rfl B 5 i0 (.int .u8 0) 1 1 Tryd.underlying27 hi hz0 hz1 hz2 rfl (by omega) (.slice (some ⟨g1, 0, none⟩) (n + 1) cap1) (n + 1) (xs ++ [.int .u8 45]) rfl (by exact OWN3.out) ⟨W1.heap.size, k, none⟩ l.length l.length (Lib.byteCells l) rfl (by simp [Lib.byteCells]) (by exact hnew.out) (byteCells_one _) (by omega) (by unfold maxLen; omega) (by omega) (by omega) _ rfl ?_)
      intro g3 cap3 W3 hown3 hgrow3 hat3 hlt3
      have BEL3 : Below B w W3 := BEL2.grown hgrow3 (by omega) (fun k hk => (OWN3.out.lt k hk).1)
      clear hgrow3 hat3
      have OWN4 := hide hown3
      clear hown3
      go_wp2
      go_ret
      have e := HL.out
      subst e
      exact ⟨_, rfl, OWN4.out, BEL3⟩
    · have ht : (10 : Int) ≤ (uc : Int) := by omega
      have hroom2 : 1 ≤ k := by rw [Lib.nDigits_big hten] at hroom; have := Lib.nDigits_pos (uc / 10); omega
      have hdg := dg.lay (by omega) HV.out (by omega) (UInt8.ofNat (48 + uc % 10)) (uc / 10) (by rw [dg.eq, dec_big hten]; simp)
      rw [digit_nat (show uc % 10 < 10 by omega)] at hdg
      have HDG := hide hdg
      clear dg hdg hroom hpos hf
      go_wp2
      go_roundw
      case rel => exact ⟨uc / 10, k, _, by go_num, by go_num, by omega, HDG.out⟩
      case measure => simp [intOf]; omega

/-- appendDecimal appends the numeral. -/
theorem ad_any (B n : Nat) (z : Int) (h0 : -9223372036854775808 ≤ z) (h1 : z ≤ 9223372036854775807) (v : Value) (xs : List Value) (w : World) (h : w.ownsRow B 5 1 v n xs) (hB : B ≤ w.heap.size) (hn : n ≤ 140737488355000) :
    Calls Tryd.prog 11 #[v, .int .i64 z] w fun e w' => ∃ v', e = .returned v' ∧ w'.ownsRow B 5 1 v' (n + (Lib.itoa z).length) (xs ++ Lib.byteCells (Lib.itoa z)) ∧ Below B w w' := by
  by_cases hneg : z < 0
  · obtain ⟨u, rfl⟩ : ∃ u : Nat, z = -(u : Int) := ⟨z.natAbs, by omega⟩
    refine (ad_neg B n u (by omega) (by omega) v xs w h hB hn).mono ?_
    rintro e w' ⟨v', he, ho, hb⟩
    refine ⟨v', he, ?_, hb⟩
    rw [Lib.itoa_neg u (by omega)]
    have e1 : n + (45 :: Lib.decDigits u).length = n + 1 + (Lib.decDigits u).length := by simp; omega
    have e2 : xs ++ Lib.byteCells (45 :: Lib.decDigits u) = xs ++ .int .u8 45 :: Lib.byteCells (Lib.decDigits u) := by simp [Lib.byteCells]
    rw [e1, e2]
    exact ho
  · obtain ⟨u, rfl⟩ : ∃ u : Nat, z = u := ⟨z.toNat, by omega⟩
    rw [Lib.itoa_nonneg]
    exact ad_pos B n u h1 v xs w h hB hn
end Go.Proofs.Qxb6605270aDoor
