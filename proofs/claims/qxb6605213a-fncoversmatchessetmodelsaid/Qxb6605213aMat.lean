import Derived.Test.Qxb6605213aMake
import Derived.Test.Qxb6605213aBytes
import Derived.Test.Qxb6605213aValid
import Derived.Test.Qxb6605213aZa
import Derived.Test.Qxb6605213aModel
namespace Go.Proofs.Qxb6605213a
open Go.RowKit Go.Deep

set_option linter.unusedSimpArgs false in
set_option maxRecDepth 100000 in
set_option maxHeartbeats 4000000 in
theorem matches_walk (a1 a2 a3 : Option Addr) (an1 an2 an3 ac1 ac2 ac3 : Nat) (A : Acc) (b1 b2 b3 : Option Addr) (bn1 bn2 bn3 bc1 bc2 bc3 : Nat) (B : Acc) (w : World) (ah : In w a1 an1 a2 an2 a3 an3 A) (bh : In w b1 bn1 b2 bn2 b3 bn3 B) :
    Calls Try.prog 3 #[.slice a1 an1 ac1, .slice a2 an2 ac2, .slice a3 an3 ac3, .slice b1 bn1 bc1, .slice b2 bn2 bc2, .slice b3 bn3 bc3] w fun e w' => e = .returned (.bool true) ∧ Below w.heap.size w w' := by
  have bw : Below w.heap.size w w := Below.refl _ _
  go_enter Try.func3, Try.ntmps3
  go_wp2_with fail
  refine (calls_flip (zz7 _ _ _ _ _ _ _ _ _ A.modes _ _ _ _ _ _ _ _ _ B.modes _ ah.r.max ah.x.max ah.m bh.r.max bh.x.max bh.m)).mono ?_
  rintro e w' ⟨⟨r, rfl⟩, rfl⟩
  cases r
  · go_wp2_with fail
    go_ret
    exact ⟨rfl, bw⟩
  go_wp2_with fail
  refine (bytes_any _ _ _ _ _ _ _ _ _ A.modes _ ah.r.max ah.x.max (by exact ah.m.below bw)).mono ?_
  rintro e w' ⟨ar, rfl, ar0, ar1, aok, am, rfl⟩
  have bw0 := below_drewN bw am
  go_wp2_with fail
  refine (bytes_any _ _ _ _ _ _ _ _ _ B.modes _ bh.r.max bh.x.max (by exact bh.m.below bw0)).mono ?_
  rintro e w' ⟨br, rfl, br0, br1, bok, bm, rfl⟩
  have bw1 := below_drewN bw0 bm
  simp only [World.drewN_drewN] at bw1 ⊢
  by_cases hbig : (1048576 : Int) < ar + br
  · go_wp2_with fail
    go_ret
    exact ⟨rfl, bw1⟩
  obtain ⟨al1, al2, al3, al4⟩ := aok (by omega)
  obtain ⟨bl1, bl2, bl3, bl4⟩ := bok (by omega)
  go_wp2_with fail
  refine (valid_any _ _ _ A.modes _ (by exact ah.m.below bw1)).mono ?_
  rintro e w' ⟨av, rfl, aval, ak, rfl⟩
  have bv0 := below_drewN bw1 ak
  simp only [World.drewN_drewN] at bv0 ⊢
  cases av
  · go_wp2_with fail
    go_ret
    exact ⟨rfl, bv0⟩
  replace aval := aval rfl
  go_wp2_with fail
  refine (valid_any _ _ _ B.modes _ (by exact bh.m.below bv0)).mono ?_
  rintro e w' ⟨bv, rfl, bval, bk, rfl⟩
  have bv1 := below_drewN bv0 bk
  simp only [World.drewN_drewN] at bv1 ⊢
  cases bv
  · go_wp2_with fail
    go_ret
    exact ⟨rfl, bv1⟩
  replace bval := bval rfl
  go_wp2_with fail
  refine (cloneWords_any _ _ _ A.read _ (by exact ah.r.below bv1) al1).mono ?_
  rintro e w1 ⟨ap1, aq1, rfl, af1, _, hb1⟩
  have bc1 := below_step hb1 bv1
  clear hb1
  go_wp2_with fail
  refine (cloneWords_any _ _ _ A.write _ (by exact ah.x.below bc1) al2).mono ?_
  rintro e w2 ⟨ap2, aq2, rfl, af2, _, hb2⟩
  have bc2 := below_step hb2 bc1
  replace af1 := af1.below hb2
  clear hb2
  go_wp2_with fail
  refine (cloneModes_any _ _ _ A.modes _ (by exact ah.m.below bc2) al3 al4).mono ?_
  rintro e w3 ⟨ap3, aq3, rfl, af3, hb3⟩
  have bc3 := below_step hb3 bc2
  replace af1 := af1.below hb3
  replace af2 := af2.below hb3
  clear hb3
  go_wp2_with fail
  refine (cloneWords_any _ _ _ B.read _ (by exact bh.r.below bc3) bl1).mono ?_
  rintro e w4 ⟨bp1, bq1, rfl, bf1, _, hb4⟩
  have bc4 := below_step hb4 bc3
  replace af1 := af1.below hb4
  replace af2 := af2.below hb4
  replace af3 := af3.below hb4
  clear hb4
  go_wp2_with fail
  refine (cloneWords_any _ _ _ B.write _ (by exact bh.x.below bc4) bl2).mono ?_
  rintro e w5 ⟨bp2, bq2, rfl, bf2, _, hb5⟩
  have bc5 := below_step hb5 bc4
  replace af1 := af1.below hb5
  replace af2 := af2.below hb5
  replace af3 := af3.below hb5
  replace bf1 := bf1.below hb5
  clear hb5
  go_wp2_with fail
  refine (cloneModes_any _ _ _ B.modes _ (by exact bh.m.below bc5) bl3 bl4).mono ?_
  rintro e w6 ⟨bp3, bq3, rfl, bf3, hb6⟩
  have bc6 := below_step hb6 bc5
  replace af1 := af1.below hb6
  replace af2 := af2.below hb6
  replace af3 := af3.below hb6
  replace bf1 := bf1.below hb6
  replace bf2 := bf2.below hb6
  clear hb6
  clear ah bh al1 al2 al4
  go_wp2_with fail
  refine (make_any _ _ _ _ _ _ _ _ _ A _ (by exact af1) (by exact af2) (by exact af3) al3).mono ?_
  rintro e w7 ⟨va, rfl, aacc, hb7⟩
  obtain ⟨au1, au2, au3, au4, au5, au6, au7, au8, au9, rfl, _⟩ := id aacc.is
  have bc7 := below_step hb7 bc6
  replace af1 := af1.below hb7
  replace af2 := af2.below hb7
  replace af3 := af3.below hb7
  replace bf1 := bf1.below hb7
  replace bf2 := bf2.below hb7
  replace bf3 := bf3.below hb7
  have ha7 := (Below.refl w7.heap.size w7).alloc (Nat.le_refl _) (.cells #[.slice au1 au2 au3, .slice au4 au5 au6, .slice au7 au8 au9] 32)
  have abox := box_new w7 (.slice au1 au2 au3) (.slice au4 au5 au6) (.slice au7 au8 au9)
  replace af1 := af1.below ha7
  replace af2 := af2.below ha7
  replace af3 := af3.below ha7
  replace bf1 := bf1.below ha7
  replace bf2 := bf2.below ha7
  replace bf3 := bf3.below ha7
  replace aacc := aacc.below ha7
  have bd7 := below_step ha7 bc7
  clear hb7 ha7
  go_wp2_with fail
  refine (make_any _ _ _ _ _ _ _ _ _ B _ (by exact bf1) (by exact bf2) (by exact bf3) bl3).mono ?_
  rintro e w8 ⟨vb, rfl, bacc, hb8⟩
  obtain ⟨bu1, bu2, bu3, bu4, bu5, bu6, bu7, bu8, bu9, rfl, _⟩ := id bacc.is
  have bc8 := below_step hb8 bd7
  replace af1 := af1.below hb8
  replace af2 := af2.below hb8
  replace af3 := af3.below hb8
  replace bf1 := bf1.below hb8
  replace bf2 := bf2.below hb8
  replace bf3 := bf3.below hb8
  replace aacc := aacc.below hb8
  replace abox := abox.below hb8
  have ha8 := (Below.refl w8.heap.size w8).alloc (Nat.le_refl _) (.cells #[.slice bu1 bu2 bu3, .slice bu4 bu5 bu6, .slice bu7 bu8 bu9] 32)
  have bbox := box_new w8 (.slice bu1 bu2 bu3) (.slice bu4 bu5 bu6) (.slice bu7 bu8 bu9)
  replace af1 := af1.below ha8
  replace af2 := af2.below ha8
  replace af3 := af3.below ha8
  replace bf1 := bf1.below ha8
  replace bf2 := bf2.below ha8
  replace bf3 := bf3.below ha8
  replace aacc := aacc.below ha8
  replace bacc := bacc.below ha8
  replace abox := abox.below ha8
  have bd8 := below_step ha8 bc8
  clear hb8 ha8
  have bhs : small B.modes := bl4
  have abox0 := abox.c0
  have abox1 := abox.c1
  have abox2 := abox.c2
  have bbox0 := bbox.c0
  have bbox1 := bbox.c1
  have bbox2 := bbox.c2
  go_wp2_with fail
  refine (Covers_any A B _ _ _ (by exact aacc) (by exact bacc)).mono ?_
  rintro e w9 ⟨rfl, hb9⟩
  have bc9 := below_step hb9 bd8
  clear abox0 abox1 abox2
  clear bbox0 bbox1 bbox2
  replace af1 := af1.below hb9
  replace af2 := af2.below hb9
  replace af3 := af3.below hb9
  replace bf1 := bf1.below hb9
  replace bf2 := bf2.below hb9
  replace bf3 := bf3.below hb9
  replace aacc := aacc.below hb9
  replace bacc := bacc.below hb9
  replace abox := abox.below hb9
  replace bbox := bbox.below hb9
  clear hb9
  go_wp2_with fail
  refine (model_any A B _ _ _ _ _ _ _ _ _ _ _ _ _ _ _ _ _ _ _ ⟨by exact af1, by exact af2, by exact af3⟩ ⟨by exact bf1, by exact bf2, by exact bf3⟩ bval bl1 bl2 bhs).mono ?_
  rintro e w' ⟨rfl, nq, rfl⟩
  go_wp2_with fail
  go_ret
  exact ⟨ret_bool (by simp), below_drewN bc9 nq⟩

end Go.Proofs.Qxb6605213a
