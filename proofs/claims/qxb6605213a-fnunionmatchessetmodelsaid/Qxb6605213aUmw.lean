import Derived.Test.Qxb6605213aMake
import Derived.Test.Qxb6605213aBytes
import Derived.Test.Qxb6605213aValid
import Derived.Test.Qxb6605213aZa
import Derived.Test.Qxb6605213aUspec
namespace Go.Proofs.Qxb6605213a
open Go.RowKit Go.Deep

set_option linter.unusedSimpArgs false in
set_option maxRecDepth 100000 in
set_option maxHeartbeats 4000000 in
theorem unimatch_walk (a1 a2 a3 : Option Addr) (an1 an2 an3 ac1 ac2 ac3 : Nat) (A : Acc) (b1 b2 b3 : Option Addr) (bn1 bn2 bn3 bc1 bc2 bc3 : Nat) (B : Acc) (w : World) (ah : In w a1 an1 a2 an2 a3 an3 A) (bh : In w b1 bn1 b2 bn2 b3 bn3 B) :
    Calls Try.prog 5 #[.slice a1 an1 ac1, .slice a2 an2 ac2, .slice a3 an3 ac3, .slice b1 bn1 bc1, .slice b2 bn2 bc2, .slice b3 bn3 bc3] w fun e w' => e = .returned (.bool true) ∧ Below w.heap.size w w' := by
  have bw : Below w.heap.size w w := Below.refl _ _
  go_enter Try.func5, Try.ntmps5
  go_wp2_with fail
  refine (calls_flip (zz16 _ _ _ _ _ _ _ _ _ A.modes _ _ _ _ _ _ _ _ _ B.modes _ ah.r.max ah.x.max ah.m bh.r.max bh.x.max bh.m)).mono ?_
  rintro e w' ⟨⟨r, rfl⟩, rfl⟩
  cases r
  · go_wp2_with fail
    go_ret
    exact ⟨rfl, bw⟩
  go_wp2_with fail
  refine (bytes_any _ _ _ _ _ _ _ _ _ A.modes _ ah.r.max ah.x.max (by exact ah.m.below bw)).mono ?_
  rintro e w' ⟨ar, rfl, ar0, ar1, aok, am, rfl⟩
  have bw0 := below_drewN bw am
  go_wp2_with fail
  refine (bytes_any _ _ _ _ _ _ _ _ _ B.modes _ bh.r.max bh.x.max (by exact bh.m.below bw0)).mono ?_
  rintro e w' ⟨br, rfl, br0, br1, bok, bm, rfl⟩
  have bw1 := below_drewN bw0 bm
  simp only [World.drewN_drewN] at bw1 ⊢
  by_cases hbig : (1048576 : Int) < ar + br
  · go_wp2_with fail
    go_ret
    exact ⟨rfl, bw1⟩
  obtain ⟨al1, al2, al3, al4⟩ := aok (by omega)
  obtain ⟨bl1, bl2, bl3, bl4⟩ := bok (by omega)
  go_wp2_with fail
  refine (valid_any _ _ _ A.modes _ (by exact ah.m.below bw1)).mono ?_
  rintro e w' ⟨av, rfl, aval, ak, rfl⟩
  have bv0 := below_drewN bw1 ak
  simp only [World.drewN_drewN] at bv0 ⊢
  cases av
  · go_wp2_with fail
    go_ret
    exact ⟨rfl, bv0⟩
  replace aval := aval rfl
  go_wp2_with fail
  refine (valid_any _ _ _ B.modes _ (by exact bh.m.below bv0)).mono ?_
  rintro e w' ⟨bv, rfl, bval, bk, rfl⟩
  have bv1 := below_drewN bv0 bk
  simp only [World.drewN_drewN] at bv1 ⊢
  cases bv
  · go_wp2_with fail
    go_ret
    exact ⟨rfl, bv1⟩
  replace bval := bval rfl
  go_wp2_with fail
  refine (cloneWords_any _ _ _ A.read _ (by exact ah.r.below bv1) al1).mono ?_
  rintro e w1 ⟨ap1, aq1, rfl, af1, _, hb1⟩
  have bc1 := below_step hb1 bv1
  clear hb1
  go_wp2_with fail
  refine (cloneWords_any _ _ _ A.write _ (by exact ah.x.below bc1) al2).mono ?_
  rintro e w2 ⟨ap2, aq2, rfl, af2, _, hb2⟩
  have bc2 := below_step hb2 bc1
  replace af1 := af1.below hb2
  clear hb2
  go_wp2_with fail
  refine (cloneModes_any _ _ _ A.modes _ (by exact ah.m.below bc2) al3 al4).mono ?_
  rintro e w3 ⟨ap3, aq3, rfl, af3, hb3⟩
  have bc3 := below_step hb3 bc2
  replace af1 := af1.below hb3
  replace af2 := af2.below hb3
  clear hb3
  go_wp2_with fail
  refine (cloneWords_any _ _ _ B.read _ (by exact bh.r.below bc3) bl1).mono ?_
  rintro e w4 ⟨bp1, bq1, rfl, bf1, _, hb4⟩
  have bc4 := below_step hb4 bc3
  replace af1 := af1.below hb4
  replace af2 := af2.below hb4
  replace af3 := af3.below hb4
  clear hb4
  go_wp2_with fail
  refine (cloneWords_any _ _ _ B.write _ (by exact bh.x.below bc4) bl2).mono ?_
  rintro e w5 ⟨bp2, bq2, rfl, bf2, _, hb5⟩
  have bc5 := below_step hb5 bc4
  replace af1 := af1.below hb5
  replace af2 := af2.below hb5
  replace af3 := af3.below hb5
  replace bf1 := bf1.below hb5
  clear hb5
  go_wp2_with fail
  refine (cloneModes_any _ _ _ B.modes _ (by exact bh.m.below bc5) bl3 bl4).mono ?_
  rintro e w6 ⟨bp3, bq3, rfl, bf3, hb6⟩
  have bc6 := below_step hb6 bc5
  replace af1 := af1.below hb6
  replace af2 := af2.below hb6
  replace af3 := af3.below hb6
  replace bf1 := bf1.below hb6
  replace bf2 := bf2.below hb6
  clear hb6
  have sA : SmallA A := ⟨by have := ah.r.len; omega, by have := ah.x.len; omega, by have := ah.m.len; omega, al4⟩
  have sB : SmallA B := ⟨by have := bh.r.len; omega, by have := bh.x.len; omega, by have := bh.m.len; omega, bl4⟩
  clear ah bh
  go_wp2_with fail
  refine (make_any _ _ _ _ _ _ _ _ _ A _ (by exact af1) (by exact af2) (by exact af3) al3).mono ?_
  rintro e w7 ⟨va, rfl, aacc, hb7⟩
  obtain ⟨au1, au2, au3, au4, au5, au6, au7, au8, au9, rfl, _⟩ := id aacc.is
  have bc7 := below_step hb7 bc6
  replace af1 := af1.below hb7
  replace af2 := af2.below hb7
  replace af3 := af3.below hb7
  replace bf1 := bf1.below hb7
  replace bf2 := bf2.below hb7
  replace bf3 := bf3.below hb7
  have ha7 := (Below.refl w7.heap.size w7).alloc (Nat.le_refl _) (.cells #[.slice au1 au2 au3, .slice au4 au5 au6, .slice au7 au8 au9] 32)
  have abox := box_new w7 (.slice au1 au2 au3) (.slice au4 au5 au6) (.slice au7 au8 au9)
  replace af1 := af1.below ha7
  replace af2 := af2.below ha7
  replace af3 := af3.below ha7
  replace bf1 := bf1.below ha7
  replace bf2 := bf2.below ha7
  replace bf3 := bf3.below ha7
  replace aacc := aacc.below ha7
  have bd7 := below_step ha7 bc7
  clear hb7 ha7
  go_wp2_with fail
  refine (make_any _ _ _ _ _ _ _ _ _ B _ (by exact bf1) (by exact bf2) (by exact bf3) bl3).mono ?_
  rintro e w8 ⟨vb, rfl, bacc, hb8⟩
  obtain ⟨bu1, bu2, bu3, bu4, bu5, bu6, bu7, bu8, bu9, rfl, _⟩ := id bacc.is
  have bc8 := below_step hb8 bd7
  replace af1 := af1.below hb8
  replace af2 := af2.below hb8
  replace af3 := af3.below hb8
  replace bf1 := bf1.below hb8
  replace bf2 := bf2.below hb8
  replace bf3 := bf3.below hb8
  replace aacc := aacc.below hb8
  replace abox := abox.below hb8
  have ha8 := (Below.refl w8.heap.size w8).alloc (Nat.le_refl _) (.cells #[.slice bu1 bu2 bu3, .slice bu4 bu5 bu6, .slice bu7 bu8 bu9] 32)
  have bbox := box_new w8 (.slice bu1 bu2 bu3) (.slice bu4 bu5 bu6) (.slice bu7 bu8 bu9)
  replace af1 := af1.below ha8
  replace af2 := af2.below ha8
  replace af3 := af3.below ha8
  replace bf1 := bf1.below ha8
  replace bf2 := bf2.below ha8
  replace bf3 := bf3.below ha8
  replace aacc := aacc.below ha8
  replace bacc := bacc.below ha8
  replace abox := abox.below ha8
  have bd8 := below_step ha8 bc8
  clear hb8 ha8
  have sU := small_uAcc sA sB
  have vU := valid_uAcc aval bval
  have abox0 := abox.c0
  have abox1 := abox.c1
  have abox2 := abox.c2
  have bbox0 := bbox.c0
  have bbox1 := bbox.c1
  have bbox2 := bbox.c2
  go_wp2_with fail
  refine (Union_any A B _ _ _ (by exact aacc) (by exact bacc) sA sB).mono ?_
  rintro e w9 ⟨vu, rfl, uacc, hb9⟩
  obtain ⟨uu1, uu2, uu3, uu4, uu5, uu6, uu7, uu8, uu9, rfl, uf1, uf2, uf3⟩ := uacc.is
  have bc9 := below_step hb9 bd8
  clear abox0 abox1 abox2
  clear bbox0 bbox1 bbox2
  clear aacc bacc abox bbox
  replace af1 := af1.below hb9
  replace af2 := af2.below hb9
  replace af3 := af3.below hb9
  replace bf1 := bf1.below hb9
  replace bf2 := bf2.below hb9
  replace bf3 := bf3.below hb9
  have ha9 := (Below.refl w9.heap.size w9).alloc (Nat.le_refl _) (.cells #[.slice uu1 uu2 uu3, .slice uu4 uu5 uu6, .slice uu7 uu8 uu9] 32)
  have ubox := box_new w9 (.slice uu1 uu2 uu3) (.slice uu4 uu5 uu6) (.slice uu7 uu8 uu9)
  replace af1 := af1.below ha9
  replace af2 := af2.below ha9
  replace af3 := af3.below ha9
  replace bf1 := bf1.below ha9
  replace bf2 := bf2.below ha9
  replace bf3 := bf3.below ha9
  replace uf1 := uf1.below ha9
  replace uf2 := uf2.below ha9
  replace uf3 := uf3.below ha9
  have bd9 := below_step ha9 bc9
  clear hb9 ha9
  have su1 : uu2 ≤ 1048576 := by have := uf1.len; have := sU.r; omega
  have su2 : uu5 ≤ 1048576 := by have := uf2.len; have := sU.x; omega
  have hur := hide (uAcc_read A B)
  have huw := hide (uAcc_write A B)
  have ubox0 := ubox.c0
  have ubox1 := ubox.c1
  have ubox2 := ubox.c2
  go_wp2_with fail
  refine (accR_any _ _ _ _ _ _ _ _ _ _).mono ?_
  rintro e w10 ⟨rfl, hb10⟩
  have bc10 := below_step hb10 bd9
  clear ubox0 ubox1 ubox2
  replace af1 := af1.below hb10
  replace af2 := af2.below hb10
  replace af3 := af3.below hb10
  replace bf1 := bf1.below hb10
  replace bf2 := bf2.below hb10
  replace bf3 := bf3.below hb10
  replace uf1 := uf1.below hb10
  replace uf2 := uf2.below hb10
  replace uf3 := uf3.below hb10
  replace ubox := ubox.below hb10
  clear hb10
  go_wp2_with fail
  refine (um_any uu1 ap1 bp1 _ _ _ _ _ _ (uAcc A B).read A.read B.read _ (by exact uf1) (by exact af1) (by exact bf1) hur.out su1 al1 bl1).mono ?_
  rintro e w' ⟨rfl, rfl⟩
  have ubox0 := ubox.c0
  have ubox1 := ubox.c1
  have ubox2 := ubox.c2
  go_wp2_with fail
  refine (accW_any _ _ _ _ _ _ _ _ _ _).mono ?_
  rintro e w11 ⟨rfl, hb11⟩
  have bc11 := below_step hb11 bc10
  clear ubox0 ubox1 ubox2
  replace af1 := af1.below hb11
  replace af2 := af2.below hb11
  replace af3 := af3.below hb11
  replace bf1 := bf1.below hb11
  replace bf2 := bf2.below hb11
  replace bf3 := bf3.below hb11
  replace uf1 := uf1.below hb11
  replace uf2 := uf2.below hb11
  replace uf3 := uf3.below hb11
  replace ubox := ubox.below hb11
  clear hb11
  go_wp2_with fail
  refine (um_any uu4 ap2 bp2 _ _ _ _ _ _ (uAcc A B).write A.write B.write _ (by exact uf2) (by exact af2) (by exact bf2) huw.out su2 al2 bl2).mono ?_
  rintro e w' ⟨rfl, rfl⟩
  have ubox0 := ubox.c0
  have ubox1 := ubox.c1
  have ubox2 := ubox.c2
  go_wp2_with fail
  refine (accM_any _ _ _ _ _ _ _ _ _ _).mono ?_
  rintro e w12 ⟨rfl, hb12⟩
  have bc12 := below_step hb12 bc11
  clear ubox0 ubox1 ubox2
  replace af1 := af1.below hb12
  replace af2 := af2.below hb12
  replace af3 := af3.below hb12
  replace bf1 := bf1.below hb12
  replace bf2 := bf2.below hb12
  replace bf3 := bf3.below hb12
  replace uf1 := uf1.below hb12
  replace uf2 := uf2.below hb12
  replace uf3 := uf3.below hb12
  replace ubox := ubox.below hb12
  clear hb12
  clear af1 af2 bf1 bf2 uf1 uf2 ubox
  have mxu := uf3.max
  have mxa := af3.max
  have mxb := bf3.max
  go_wp2_with fail
  go_loopw [17, 103] (fun t i wr => ∃ (k : Nat) (p : Int), k ≤ uu8 ∧ i = .int .i64 k ∧ t = .int .i64 p ∧ -1 ≤ p ∧ p < 14 ∧ (∀ j, j < uu8 → k ≤ j → p < (ml (uAcc A B).modes j).mode) ∧ Below w12.heap.size w12 wr) (fun _ i _ => uu8 - (intOf i).toNat)
  case atStart => exact ⟨0, -1, by omega, rfl, rfl, by omega, by omega, fun j _ _ => by omega, Below.refl _ _⟩
  case round =>
    obtain ⟨k, p, hk, rfl, rfl, p1, p2, hp, hB⟩ := hrel
    by_cases hlt : k < uu8
    · obtain ⟨b, o, rfl, hcell⟩ := uf3.cell k hlt
      obtain ⟨ra, rn, rc, wa, wn, wc, hl⟩ := hcell k hlt
      obtain ⟨q0, q1, q2, q3, _, _, lt⟩ := hl.below hB
      have hpk := hp k hlt (Nat.le_refl _)
      have hvk := (vU k (by have := uf3.len; omega)).1
      have t1 : ¬ ((ml (uAcc A B).modes k).mode : Int) ≤ p := by omega
      have t2 : ¬ (14 : Int) ≤ ((ml (uAcc A B).modes k).mode : Int) := by omega
      go_wp2_with fail
      refine (fields_any _ _ _ _ _ _ _ _ _).mono ?_
      rintro e t1 ⟨rfl, hb1⟩
      go_wp2_with fail
      go_roundw
      case rel => exact ⟨k + 1, _, by omega, by go_num, rfl, by omega, by omega, fun j hj hkj => by have := valid_ne vU (i := k) (j := j) (by omega) (by have := uf3.len; omega); omega, below_step hb1 hB⟩
      case measure => simp [intOf]; omega
    · clear hp
      go_wp2_with fail
      go_loopw [23] (fun i wr => ∃ k : Nat, k ≤ 14 ∧ i = .int .i64 k ∧ Below w12.heap.size w12 wr) (fun i _ => 14 - (intOf i).toNat)
      case atStart => exact ⟨0, by omega, rfl, hB⟩
      case round =>
        clear hB
        obtain ⟨k, hk, rfl, hB⟩ := hrel
        by_cases hlt : k < 14
        · have hlt' : (k : Int) < 14 := by omega
          have ag := agrees A B k hlt
          replace uf3 := uf3.below hB
          replace af3 := af3.below hB
          replace bf3 := bf3.below hB
          rcases hit_or_miss A.modes k with ⟨ja, hja, fa⟩ | ⟨hma, fa⟩
          · rcases hit_or_miss B.modes k with ⟨jb, hjb, fb⟩ | ⟨hmb, fb⟩
            · rcases hit_or_miss (uAcc A B).modes k with ⟨ju, hju, fu⟩ | ⟨hmu, fu⟩
              · rw [fa, fb, fu] at ag
                clear fa fb fu
                have ltu : ju < uu8 := by have := uf3.len; have := hju.1; omega
                obtain ⟨bu, ou, rfl, hcu⟩ := uf3.cell ju ltu
                obtain ⟨ura, urn, urc, uwa, uwn, uwc, lu⟩ := hcu ju ltu
                have iu1 : (0 : Int) ≤ (ju : Int) := by omega
                have iu2 : (ju : Int) < (uu8 : Int) := by omega
                have lta : ja < an3 := by have := af3.len; have := hja.1; omega
                obtain ⟨ba, oa, rfl, hca⟩ := af3.cell ja lta
                obtain ⟨ara, arn, arc, awa, awn, awc, la⟩ := hca ja lta
                have ia1 : (0 : Int) ≤ (ja : Int) := by omega
                have ia2 : (ja : Int) < (an3 : Int) := by omega
                have ltb : jb < bn3 := by have := bf3.len; have := hjb.1; omega
                obtain ⟨bb, ob, rfl, hcb⟩ := bf3.cell jb ltb
                obtain ⟨bra, brn, brc, bwa, bwn, bwc, lb⟩ := hcb jb ltb
                have ib1 : (0 : Int) ≤ (jb : Int) := by omega
                have ib2 : (jb : Int) < (bn3 : Int) := by omega
                have HW := hide (ag.whole rfl)
                have HR := hide (ag.r rfl)
                have HX := hide (ag.w rfl)
                clear ag
                cases hqa : (ml A.modes ja).whole
                · cases hqb : (ml B.modes jb).whole
                  · have hwa : (ml A.modes ja).whole = false := by assumption
                    have hwb : (ml B.modes jb).whole = false := by assumption
                    have hwu : (ml (uAcc A B).modes ju).whole = false := by have := HW.out; simpa [hwa, hwb] using this
                    have HR2 := hide (HR.out hwu)
                    have HX2 := hide (HX.out hwu)
                    clear HW HR HX
                    go_wp2_with fail
                    refine (find_hit _ _ _ k ja A.modes _ (by exact af3) hja).mono ?_
                    rintro e w' ⟨rfl, rfl⟩
                    go_wp2_with fail
                    refine (find_hit _ _ _ k jb B.modes _ (by exact bf3) hjb).mono ?_
                    rintro e w' ⟨rfl, rfl⟩
                    go_wp2_with fail
                    refine (findU_hit _ _ _ k ju (uAcc A B).modes _ (by exact uf3) hju).mono ?_
                    rintro e t1 ⟨rfl, hb1⟩
                    obtain ⟨u0, u1, u2, u3, _, _, _⟩ := lu.below hb1
                    rw [hwu] at u1
                    go_wp2_with fail
                    refine (fields_any _ _ _ _ _ _ _ _ _).mono ?_
                    rintro e t2 ⟨rfl, hb2⟩
                    have hb12 := below_step hb2 hb1
                    obtain ⟨_, a1', a2', a3', _, _, _⟩ := la.below hb12
                    rw [hwa] at a1'
                    obtain ⟨_, b1', b2', b3', _, _, _⟩ := lb.below hb12
                    rw [hwb] at b1'
                    go_wp2_with fail
                    have su := sU.l ju hju.1
                    have sa := sA.l ja hja.1
                    have sb := sB.l jb hjb.1
                    refine (um_any _ _ _ _ _ _ _ _ _ (ml (uAcc A B).modes ju).read (ml A.modes ja).read (ml B.modes jb).read _ (by exact lu.hr.below hb12) (by exact la.hr.below hb12) (by exact lb.hr.below hb12) HR2.out (by have := lu.hr.len; omega) (by have := la.hr.len; omega) (by have := lb.hr.len; omega)).mono ?_
                    rintro e w' ⟨rfl, rfl⟩
                    go_wp2_with fail
                    refine (um_any _ _ _ _ _ _ _ _ _ (ml (uAcc A B).modes ju).write (ml A.modes ja).write (ml B.modes jb).write _ (by exact lu.hw.below hb12) (by exact la.hw.below hb12) (by exact lb.hw.below hb12) HX2.out (by have := lu.hw.len; omega) (by have := la.hw.len; omega) (by have := lb.hw.len; omega)).mono ?_
                    rintro e w' ⟨rfl, rfl⟩
                    go_wp2_with fail
                    go_roundw
                    case rel => exact ⟨k + 1, by omega, by go_num, below_step hb12 hB⟩
                    case measure => simp [intOf]; omega
                  · have hwa : (ml A.modes ja).whole = false := by assumption
                    have hwb : (ml B.modes jb).whole = true := by assumption
                    have hwu : (ml (uAcc A B).modes ju).whole = true := by have := HW.out; simpa [hwa, hwb] using this
                    clear HW HR HX
                    go_wp2_with fail
                    refine (find_hit _ _ _ k ja A.modes _ (by exact af3) hja).mono ?_
                    rintro e w' ⟨rfl, rfl⟩
                    go_wp2_with fail
                    refine (find_hit _ _ _ k jb B.modes _ (by exact bf3) hjb).mono ?_
                    rintro e w' ⟨rfl, rfl⟩
                    go_wp2_with fail
                    refine (findU_hit _ _ _ k ju (uAcc A B).modes _ (by exact uf3) hju).mono ?_
                    rintro e t1 ⟨rfl, hb1⟩
                    obtain ⟨u0, u1, u2, u3, _, _, _⟩ := lu.below hb1
                    rw [hwu] at u1
                    go_wp2_with fail
                    refine (fields_any _ _ _ _ _ _ _ _ _).mono ?_
                    rintro e t2 ⟨rfl, hb2⟩
                    have hb12 := below_step hb2 hb1
                    obtain ⟨_, a1', a2', a3', _, _, _⟩ := la.below hb12
                    rw [hwa] at a1'
                    obtain ⟨_, b1', b2', b3', _, _, _⟩ := lb.below hb12
                    rw [hwb] at b1'
                    go_wp2_with fail
                    go_roundw
                    case rel => exact ⟨k + 1, by omega, by go_num, below_step hb12 hB⟩
                    case measure => simp [intOf]; omega
                · cases hqb : (ml B.modes jb).whole
                  · have hwa : (ml A.modes ja).whole = true := by assumption
                    have hwb : (ml B.modes jb).whole = false := by assumption
                    have hwu : (ml (uAcc A B).modes ju).whole = true := by have := HW.out; simpa [hwa, hwb] using this
                    clear HW HR HX
                    go_wp2_with fail
                    refine (find_hit _ _ _ k ja A.modes _ (by exact af3) hja).mono ?_
                    rintro e w' ⟨rfl, rfl⟩
                    go_wp2_with fail
                    refine (find_hit _ _ _ k jb B.modes _ (by exact bf3) hjb).mono ?_
                    rintro e w' ⟨rfl, rfl⟩
                    go_wp2_with fail
                    refine (findU_hit _ _ _ k ju (uAcc A B).modes _ (by exact uf3) hju).mono ?_
                    rintro e t1 ⟨rfl, hb1⟩
                    obtain ⟨u0, u1, u2, u3, _, _, _⟩ := lu.below hb1
                    rw [hwu] at u1
                    go_wp2_with fail
                    refine (fields_any _ _ _ _ _ _ _ _ _).mono ?_
                    rintro e t2 ⟨rfl, hb2⟩
                    have hb12 := below_step hb2 hb1
                    obtain ⟨_, a1', a2', a3', _, _, _⟩ := la.below hb12
                    rw [hwa] at a1'
                    obtain ⟨_, b1', b2', b3', _, _, _⟩ := lb.below hb12
                    rw [hwb] at b1'
                    go_wp2_with fail
                    go_roundw
                    case rel => exact ⟨k + 1, by omega, by go_num, below_step hb12 hB⟩
                    case measure => simp [intOf]; omega
                  · have hwa : (ml A.modes ja).whole = true := by assumption
                    have hwb : (ml B.modes jb).whole = true := by assumption
                    have hwu : (ml (uAcc A B).modes ju).whole = true := by have := HW.out; simpa [hwa, hwb] using this
                    clear HW HR HX
                    go_wp2_with fail
                    refine (find_hit _ _ _ k ja A.modes _ (by exact af3) hja).mono ?_
                    rintro e w' ⟨rfl, rfl⟩
                    go_wp2_with fail
                    refine (find_hit _ _ _ k jb B.modes _ (by exact bf3) hjb).mono ?_
                    rintro e w' ⟨rfl, rfl⟩
                    go_wp2_with fail
                    refine (findU_hit _ _ _ k ju (uAcc A B).modes _ (by exact uf3) hju).mono ?_
                    rintro e t1 ⟨rfl, hb1⟩
                    obtain ⟨u0, u1, u2, u3, _, _, _⟩ := lu.below hb1
                    rw [hwu] at u1
                    go_wp2_with fail
                    refine (fields_any _ _ _ _ _ _ _ _ _).mono ?_
                    rintro e t2 ⟨rfl, hb2⟩
                    have hb12 := below_step hb2 hb1
                    obtain ⟨_, a1', a2', a3', _, _, _⟩ := la.below hb12
                    rw [hwa] at a1'
                    obtain ⟨_, b1', b2', b3', _, _, _⟩ := lb.below hb12
                    rw [hwb] at b1'
                    go_wp2_with fail
                    go_roundw
                    case rel => exact ⟨k + 1, by omega, by go_num, below_step hb12 hB⟩
                    case measure => simp [intOf]; omega
              · rw [fa, fb, fu] at ag
                clear fa fb fu
                have := ag.ok; cases this
            · rcases hit_or_miss (uAcc A B).modes k with ⟨ju, hju, fu⟩ | ⟨hmu, fu⟩
              · rw [fa, fb, fu] at ag
                clear fa fb fu
                have ltu : ju < uu8 := by have := uf3.len; have := hju.1; omega
                obtain ⟨bu, ou, rfl, hcu⟩ := uf3.cell ju ltu
                obtain ⟨ura, urn, urc, uwa, uwn, uwc, lu⟩ := hcu ju ltu
                have iu1 : (0 : Int) ≤ (ju : Int) := by omega
                have iu2 : (ju : Int) < (uu8 : Int) := by omega
                have lta : ja < an3 := by have := af3.len; have := hja.1; omega
                obtain ⟨ba, oa, rfl, hca⟩ := af3.cell ja lta
                obtain ⟨ara, arn, arc, awa, awn, awc, la⟩ := hca ja lta
                have ia1 : (0 : Int) ≤ (ja : Int) := by omega
                have ia2 : (ja : Int) < (an3 : Int) := by omega
                have HW := hide (ag.whole rfl)
                have HR := hide (ag.r rfl)
                have HX := hide (ag.w rfl)
                clear ag
                cases hqa : (ml A.modes ja).whole
                · have hwa : (ml A.modes ja).whole = false := by assumption
                  have hwu : (ml (uAcc A B).modes ju).whole = false := by have := HW.out; simpa [hwa, mlNil] using this
                  have HR2 := hide (HR.out hwu)
                  have HX2 := hide (HX.out hwu)
                  clear HW HR HX
                  go_wp2_with fail
                  refine (find_hit _ _ _ k ja A.modes _ (by exact af3) hja).mono ?_
                  rintro e w' ⟨rfl, rfl⟩
                  go_wp2_with fail
                  refine (find_miss _ _ _ k B.modes _ (by exact bf3) hmb).mono ?_
                  rintro e w' ⟨rfl, rfl⟩
                  go_wp2_with fail
                  refine (findU_hit _ _ _ k ju (uAcc A B).modes _ (by exact uf3) hju).mono ?_
                  rintro e t1 ⟨rfl, hb1⟩
                  obtain ⟨u0, u1, u2, u3, _, _, _⟩ := lu.below hb1
                  rw [hwu] at u1
                  go_wp2_with fail
                  refine (fields_any _ _ _ _ _ _ _ _ _).mono ?_
                  rintro e t2 ⟨rfl, hb2⟩
                  have hb12 := below_step hb2 hb1
                  obtain ⟨_, a1', a2', a3', _, _, _⟩ := la.below hb12
                  rw [hwa] at a1'
                  go_wp2_with fail
                  have su := sU.l ju hju.1
                  have sa := sA.l ja hja.1
                  refine (um_any _ _ _ _ _ _ _ _ _ (ml (uAcc A B).modes ju).read (ml A.modes ja).read [] _ (by exact lu.hr.below hb12) (by exact la.hr.below hb12) (wd_nil _) HR2.out (by have := lu.hr.len; omega) (by have := la.hr.len; omega) (by omega)).mono ?_
                  rintro e w' ⟨rfl, rfl⟩
                  go_wp2_with fail
                  refine (um_any _ _ _ _ _ _ _ _ _ (ml (uAcc A B).modes ju).write (ml A.modes ja).write [] _ (by exact lu.hw.below hb12) (by exact la.hw.below hb12) (wd_nil _) HX2.out (by have := lu.hw.len; omega) (by have := la.hw.len; omega) (by omega)).mono ?_
                  rintro e w' ⟨rfl, rfl⟩
                  go_wp2_with fail
                  go_roundw
                  case rel => exact ⟨k + 1, by omega, by go_num, below_step hb12 hB⟩
                  case measure => simp [intOf]; omega
                · have hwa : (ml A.modes ja).whole = true := by assumption
                  have hwu : (ml (uAcc A B).modes ju).whole = true := by have := HW.out; simpa [hwa, mlNil] using this
                  clear HW HR HX
                  go_wp2_with fail
                  refine (find_hit _ _ _ k ja A.modes _ (by exact af3) hja).mono ?_
                  rintro e w' ⟨rfl, rfl⟩
                  go_wp2_with fail
                  refine (find_miss _ _ _ k B.modes _ (by exact bf3) hmb).mono ?_
                  rintro e w' ⟨rfl, rfl⟩
                  go_wp2_with fail
                  refine (findU_hit _ _ _ k ju (uAcc A B).modes _ (by exact uf3) hju).mono ?_
                  rintro e t1 ⟨rfl, hb1⟩
                  obtain ⟨u0, u1, u2, u3, _, _, _⟩ := lu.below hb1
                  rw [hwu] at u1
                  go_wp2_with fail
                  refine (fields_any _ _ _ _ _ _ _ _ _).mono ?_
                  rintro e t2 ⟨rfl, hb2⟩
                  have hb12 := below_step hb2 hb1
                  obtain ⟨_, a1', a2', a3', _, _, _⟩ := la.below hb12
                  rw [hwa] at a1'
                  go_wp2_with fail
                  go_roundw
                  case rel => exact ⟨k + 1, by omega, by go_num, below_step hb12 hB⟩
                  case measure => simp [intOf]; omega
              · rw [fa, fb, fu] at ag
                clear fa fb fu
                have := ag.ok; cases this
          · rcases hit_or_miss B.modes k with ⟨jb, hjb, fb⟩ | ⟨hmb, fb⟩
            · rcases hit_or_miss (uAcc A B).modes k with ⟨ju, hju, fu⟩ | ⟨hmu, fu⟩
              · rw [fa, fb, fu] at ag
                clear fa fb fu
                have ltu : ju < uu8 := by have := uf3.len; have := hju.1; omega
                obtain ⟨bu, ou, rfl, hcu⟩ := uf3.cell ju ltu
                obtain ⟨ura, urn, urc, uwa, uwn, uwc, lu⟩ := hcu ju ltu
                have iu1 : (0 : Int) ≤ (ju : Int) := by omega
                have iu2 : (ju : Int) < (uu8 : Int) := by omega
                have ltb : jb < bn3 := by have := bf3.len; have := hjb.1; omega
                obtain ⟨bb, ob, rfl, hcb⟩ := bf3.cell jb ltb
                obtain ⟨bra, brn, brc, bwa, bwn, bwc, lb⟩ := hcb jb ltb
                have ib1 : (0 : Int) ≤ (jb : Int) := by omega
                have ib2 : (jb : Int) < (bn3 : Int) := by omega
                have HW := hide (ag.whole rfl)
                have HR := hide (ag.r rfl)
                have HX := hide (ag.w rfl)
                clear ag
                cases hqa : (ml B.modes jb).whole
                · have hwb : (ml B.modes jb).whole = false := by assumption
                  have hwu : (ml (uAcc A B).modes ju).whole = false := by have := HW.out; simpa [hwb, mlNil] using this
                  have HR2 := hide (HR.out hwu)
                  have HX2 := hide (HX.out hwu)
                  clear HW HR HX
                  go_wp2_with fail
                  refine (find_miss _ _ _ k A.modes _ (by exact af3) hma).mono ?_
                  rintro e w' ⟨rfl, rfl⟩
                  go_wp2_with fail
                  refine (find_hit _ _ _ k jb B.modes _ (by exact bf3) hjb).mono ?_
                  rintro e w' ⟨rfl, rfl⟩
                  go_wp2_with fail
                  refine (findU_hit _ _ _ k ju (uAcc A B).modes _ (by exact uf3) hju).mono ?_
                  rintro e t1 ⟨rfl, hb1⟩
                  obtain ⟨u0, u1, u2, u3, _, _, _⟩ := lu.below hb1
                  rw [hwu] at u1
                  go_wp2_with fail
                  refine (fields_any _ _ _ _ _ _ _ _ _).mono ?_
                  rintro e t2 ⟨rfl, hb2⟩
                  have hb12 := below_step hb2 hb1
                  obtain ⟨_, b1', b2', b3', _, _, _⟩ := lb.below hb12
                  rw [hwb] at b1'
                  go_wp2_with fail
                  have su := sU.l ju hju.1
                  have sb := sB.l jb hjb.1
                  refine (um_any _ _ _ _ _ _ _ _ _ (ml (uAcc A B).modes ju).read [] (ml B.modes jb).read _ (by exact lu.hr.below hb12) (wd_nil _) (by exact lb.hr.below hb12) HR2.out (by have := lu.hr.len; omega) (by omega) (by have := lb.hr.len; omega)).mono ?_
                  rintro e w' ⟨rfl, rfl⟩
                  go_wp2_with fail
                  refine (um_any _ _ _ _ _ _ _ _ _ (ml (uAcc A B).modes ju).write [] (ml B.modes jb).write _ (by exact lu.hw.below hb12) (wd_nil _) (by exact lb.hw.below hb12) HX2.out (by have := lu.hw.len; omega) (by omega) (by have := lb.hw.len; omega)).mono ?_
                  rintro e w' ⟨rfl, rfl⟩
                  go_wp2_with fail
                  go_roundw
                  case rel => exact ⟨k + 1, by omega, by go_num, below_step hb12 hB⟩
                  case measure => simp [intOf]; omega
                · have hwb : (ml B.modes jb).whole = true := by assumption
                  have hwu : (ml (uAcc A B).modes ju).whole = true := by have := HW.out; simpa [hwb, mlNil] using this
                  clear HW HR HX
                  go_wp2_with fail
                  refine (find_miss _ _ _ k A.modes _ (by exact af3) hma).mono ?_
                  rintro e w' ⟨rfl, rfl⟩
                  go_wp2_with fail
                  refine (find_hit _ _ _ k jb B.modes _ (by exact bf3) hjb).mono ?_
                  rintro e w' ⟨rfl, rfl⟩
                  go_wp2_with fail
                  refine (findU_hit _ _ _ k ju (uAcc A B).modes _ (by exact uf3) hju).mono ?_
                  rintro e t1 ⟨rfl, hb1⟩
                  obtain ⟨u0, u1, u2, u3, _, _, _⟩ := lu.below hb1
                  rw [hwu] at u1
                  go_wp2_with fail
                  refine (fields_any _ _ _ _ _ _ _ _ _).mono ?_
                  rintro e t2 ⟨rfl, hb2⟩
                  have hb12 := below_step hb2 hb1
                  obtain ⟨_, b1', b2', b3', _, _, _⟩ := lb.below hb12
                  rw [hwb] at b1'
                  go_wp2_with fail
                  go_roundw
                  case rel => exact ⟨k + 1, by omega, by go_num, below_step hb12 hB⟩
                  case measure => simp [intOf]; omega
              · rw [fa, fb, fu] at ag
                clear fa fb fu
                have := ag.ok; cases this
            · rcases hit_or_miss (uAcc A B).modes k with ⟨ju, hju, fu⟩ | ⟨hmu, fu⟩
              · rw [fa, fb, fu] at ag
                clear fa fb fu
                have := ag.ok; cases this
              · rw [fa, fb, fu] at ag
                clear fa fb fu
                go_wp2_with fail
                refine (find_miss _ _ _ k A.modes _ (by exact af3) hma).mono ?_
                rintro e w' ⟨rfl, rfl⟩
                go_wp2_with fail
                refine (find_miss _ _ _ k B.modes _ (by exact bf3) hmb).mono ?_
                rintro e w' ⟨rfl, rfl⟩
                go_wp2_with fail
                refine (findU_miss _ _ _ k (uAcc A B).modes _ (by exact uf3) hmu).mono ?_
                rintro e t1 ⟨rfl, hb1⟩
                go_wp2_with fail
                go_roundw
                case rel => exact ⟨k + 1, by omega, by go_num, below_step hb1 hB⟩
                case measure => simp [intOf]; omega
        · go_wp2_with fail
          go_ret
          exact ⟨rfl, below_step hB bc12⟩

end Go.Proofs.Qxb6605213a
