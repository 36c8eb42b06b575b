import Derived.Test.Qxb6605213aMake
import Derived.Test.Qxb6605213aBytes
import Derived.Test.Qxb6605213aValid
import Derived.Test.Qxb6605213aZc
import Derived.Test.Qxb6605213aLub
namespace Go.Proofs.Qxb6605213a
open Go.RowKit Go.Deep

set_option linter.unusedSimpArgs false in
set_option maxRecDepth 100000 in
set_option maxHeartbeats 4000000 in
theorem lub_walk (a1 a2 a3 : Option Addr) (an1 an2 an3 ac1 ac2 ac3 : Nat) (A : Acc) (b1 b2 b3 : Option Addr) (bn1 bn2 bn3 bc1 bc2 bc3 : Nat) (B : Acc) (c1 c2 c3 : Option Addr) (cn1 cn2 cn3 cc1 cc2 cc3 : Nat) (C : Acc) (w : World) (ah : In w a1 an1 a2 an2 a3 an3 A) (bh : In w b1 bn1 b2 bn2 b3 bn3 B) (ch : In w c1 cn1 c2 cn2 c3 cn3 C) :
    Calls Try.prog 6 #[.slice a1 an1 ac1, .slice a2 an2 ac2, .slice a3 an3 ac3, .slice b1 bn1 bc1, .slice b2 bn2 bc2, .slice b3 bn3 bc3, .slice c1 cn1 cc1, .slice c2 cn2 cc2, .slice c3 cn3 cc3] w fun e w' => e = .returned (.bool true) ∧ Below w.heap.size w w' := by
  have bw : Below w.heap.size w w := Below.refl _ _
  go_enter Try.func6, Try.ntmps6
  go_wp2_with fail
  refine (calls_flip (zz25 _ _ _ _ _ _ _ _ _ A.modes _ _ _ _ _ _ _ _ _ B.modes _ _ _ _ _ _ _ _ _ C.modes _ ah.r.max ah.x.max ah.m bh.r.max bh.x.max bh.m ch.r.max ch.x.max ch.m)).mono ?_
  rintro e w' ⟨⟨r, rfl⟩, rfl⟩
  cases r
  · go_wp2_with fail
    go_ret
    exact ⟨rfl, bw⟩
  go_wp2_with fail
  refine (bytes_any _ _ _ _ _ _ _ _ _ A.modes _ ah.r.max ah.x.max (by exact ah.m.below bw)).mono ?_
  rintro e w' ⟨ar, rfl, ar0, ar1, aok, am, rfl⟩
  have bw0 := below_drewN bw am
  go_wp2_with fail
  refine (bytes_any _ _ _ _ _ _ _ _ _ B.modes _ bh.r.max bh.x.max (by exact bh.m.below bw0)).mono ?_
  rintro e w' ⟨br, rfl, br0, br1, bok, bm, rfl⟩
  have bw1 := below_drewN bw0 bm
  simp only [World.drewN_drewN] at bw1 ⊢
  go_wp2_with fail
  refine (bytes_any _ _ _ _ _ _ _ _ _ C.modes _ ch.r.max ch.x.max (by exact ch.m.below bw1)).mono ?_
  rintro e w' ⟨cr, rfl, cr0, cr1, cok, cm, rfl⟩
  have bw2 := below_drewN bw1 cm
  simp only [World.drewN_drewN] at bw2 ⊢
  by_cases hbig : (1048576 : Int) < ar + br + cr
  · go_wp2_with fail
    go_ret
    exact ⟨rfl, bw2⟩
  obtain ⟨al1, al2, al3, al4⟩ := aok (by omega)
  obtain ⟨bl1, bl2, bl3, bl4⟩ := bok (by omega)
  obtain ⟨cl1, cl2, cl3, cl4⟩ := cok (by omega)
  go_wp2_with fail
  refine (valid_any _ _ _ A.modes _ (by exact ah.m.below bw2)).mono ?_
  rintro e w' ⟨av, rfl, aval, ak, rfl⟩
  have bv0 := below_drewN bw2 ak
  simp only [World.drewN_drewN] at bv0 ⊢
  cases av
  · go_wp2_with fail
    go_ret
    exact ⟨rfl, bv0⟩
  replace aval := aval rfl
  go_wp2_with fail
  refine (valid_any _ _ _ B.modes _ (by exact bh.m.below bv0)).mono ?_
  rintro e w' ⟨bv, rfl, bval, bk, rfl⟩
  have bv1 := below_drewN bv0 bk
  simp only [World.drewN_drewN] at bv1 ⊢
  cases bv
  · go_wp2_with fail
    go_ret
    exact ⟨rfl, bv1⟩
  replace bval := bval rfl
  go_wp2_with fail
  refine (valid_any _ _ _ C.modes _ (by exact ch.m.below bv1)).mono ?_
  rintro e w' ⟨cv, rfl, cval, ck, rfl⟩
  have bv2 := below_drewN bv1 ck
  simp only [World.drewN_drewN] at bv2 ⊢
  cases cv
  · go_wp2_with fail
    go_ret
    exact ⟨rfl, bv2⟩
  replace cval := cval rfl
  go_wp2_with fail
  refine (cloneWords_any _ _ _ A.read _ (by exact ah.r.below bv2) al1).mono ?_
  rintro e w1 ⟨ap1, aq1, rfl, af1, _, hb1⟩
  have bc1 := below_step hb1 bv2
  clear hb1
  go_wp2_with fail
  refine (cloneWords_any _ _ _ A.write _ (by exact ah.x.below bc1) al2).mono ?_
  rintro e w2 ⟨ap2, aq2, rfl, af2, _, hb2⟩
  have bc2 := below_step hb2 bc1
  replace af1 := af1.below hb2
  clear hb2
  go_wp2_with fail
  refine (cloneModes_any _ _ _ A.modes _ (by exact ah.m.below bc2) al3 al4).mono ?_
  rintro e w3 ⟨ap3, aq3, rfl, af3, hb3⟩
  have bc3 := below_step hb3 bc2
  replace af1 := af1.below hb3
  replace af2 := af2.below hb3
  clear hb3
  go_wp2_with fail
  refine (cloneWords_any _ _ _ B.read _ (by exact bh.r.below bc3) bl1).mono ?_
  rintro e w4 ⟨bp1, bq1, rfl, bf1, _, hb4⟩
  have bc4 := below_step hb4 bc3
  replace af1 := af1.below hb4
  replace af2 := af2.below hb4
  replace af3 := af3.below hb4
  clear hb4
  go_wp2_with fail
  refine (cloneWords_any _ _ _ B.write _ (by exact bh.x.below bc4) bl2).mono ?_
  rintro e w5 ⟨bp2, bq2, rfl, bf2, _, hb5⟩
  have bc5 := below_step hb5 bc4
  replace af1 := af1.below hb5
  replace af2 := af2.below hb5
  replace af3 := af3.below hb5
  replace bf1 := bf1.below hb5
  clear hb5
  go_wp2_with fail
  refine (cloneModes_any _ _ _ B.modes _ (by exact bh.m.below bc5) bl3 bl4).mono ?_
  rintro e w6 ⟨bp3, bq3, rfl, bf3, hb6⟩
  have bc6 := below_step hb6 bc5
  replace af1 := af1.below hb6
  replace af2 := af2.below hb6
  replace af3 := af3.below hb6
  replace bf1 := bf1.below hb6
  replace bf2 := bf2.below hb6
  clear hb6
  go_wp2_with fail
  refine (cloneWords_any _ _ _ C.read _ (by exact ch.r.below bc6) cl1).mono ?_
  rintro e w7 ⟨cp1, cq1, rfl, cf1, _, hb7⟩
  have bc7 := below_step hb7 bc6
  replace af1 := af1.below hb7
  replace af2 := af2.below hb7
  replace af3 := af3.below hb7
  replace bf1 := bf1.below hb7
  replace bf2 := bf2.below hb7
  replace bf3 := bf3.below hb7
  clear hb7
  go_wp2_with fail
  refine (cloneWords_any _ _ _ C.write _ (by exact ch.x.below bc7) cl2).mono ?_
  rintro e w8 ⟨cp2, cq2, rfl, cf2, _, hb8⟩
  have bc8 := below_step hb8 bc7
  replace af1 := af1.below hb8
  replace af2 := af2.below hb8
  replace af3 := af3.below hb8
  replace bf1 := bf1.below hb8
  replace bf2 := bf2.below hb8
  replace bf3 := bf3.below hb8
  replace cf1 := cf1.below hb8
  clear hb8
  go_wp2_with fail
  refine (cloneModes_any _ _ _ C.modes _ (by exact ch.m.below bc8) cl3 cl4).mono ?_
  rintro e w9 ⟨cp3, cq3, rfl, cf3, hb9⟩
  have bc9 := below_step hb9 bc8
  replace af1 := af1.below hb9
  replace af2 := af2.below hb9
  replace af3 := af3.below hb9
  replace bf1 := bf1.below hb9
  replace bf2 := bf2.below hb9
  replace bf3 := bf3.below hb9
  replace cf1 := cf1.below hb9
  replace cf2 := cf2.below hb9
  clear hb9
  have sA : SmallA A := ⟨by have := ah.r.len; omega, by have := ah.x.len; omega, by have := ah.m.len; omega, al4⟩
  have sB : SmallA B := ⟨by have := bh.r.len; omega, by have := bh.x.len; omega, by have := bh.m.len; omega, bl4⟩
  have sC : SmallA C := ⟨by have := ch.r.len; omega, by have := ch.x.len; omega, by have := ch.m.len; omega, cl4⟩
  clear ah bh ch al1 al2 al4 bl1 bl2 bl4 cl1 cl2 cl4
  go_wp2_with fail
  refine (make_any _ _ _ _ _ _ _ _ _ A _ (by exact af1) (by exact af2) (by exact af3) al3).mono ?_
  rintro e w10 ⟨va, rfl, aacc, hb10⟩
  obtain ⟨au1, au2, au3, au4, au5, au6, au7, au8, au9, rfl, _⟩ := id aacc.is
  have bc10 := below_step hb10 bc9
  replace af1 := af1.below hb10
  replace af2 := af2.below hb10
  replace af3 := af3.below hb10
  replace bf1 := bf1.below hb10
  replace bf2 := bf2.below hb10
  replace bf3 := bf3.below hb10
  replace cf1 := cf1.below hb10
  replace cf2 := cf2.below hb10
  replace cf3 := cf3.below hb10
  have ha10 := (Below.refl w10.heap.size w10).alloc (Nat.le_refl _) (.cells #[.slice au1 au2 au3, .slice au4 au5 au6, .slice au7 au8 au9] 32)
  have abox := box_new w10 (.slice au1 au2 au3) (.slice au4 au5 au6) (.slice au7 au8 au9)
  replace af1 := af1.below ha10
  replace af2 := af2.below ha10
  replace af3 := af3.below ha10
  replace bf1 := bf1.below ha10
  replace bf2 := bf2.below ha10
  replace bf3 := bf3.below ha10
  replace cf1 := cf1.below ha10
  replace cf2 := cf2.below ha10
  replace cf3 := cf3.below ha10
  replace aacc := aacc.below ha10
  have bd10 := below_step ha10 bc10
  clear hb10 ha10
  go_wp2_with fail
  refine (make_any _ _ _ _ _ _ _ _ _ B _ (by exact bf1) (by exact bf2) (by exact bf3) bl3).mono ?_
  rintro e w11 ⟨vb, rfl, bacc, hb11⟩
  obtain ⟨bu1, bu2, bu3, bu4, bu5, bu6, bu7, bu8, bu9, rfl, _⟩ := id bacc.is
  have bc11 := below_step hb11 bd10
  replace af1 := af1.below hb11
  replace af2 := af2.below hb11
  replace af3 := af3.below hb11
  replace bf1 := bf1.below hb11
  replace bf2 := bf2.below hb11
  replace bf3 := bf3.below hb11
  replace cf1 := cf1.below hb11
  replace cf2 := cf2.below hb11
  replace cf3 := cf3.below hb11
  replace aacc := aacc.below hb11
  replace abox := abox.below hb11
  have ha11 := (Below.refl w11.heap.size w11).alloc (Nat.le_refl _) (.cells #[.slice bu1 bu2 bu3, .slice bu4 bu5 bu6, .slice bu7 bu8 bu9] 32)
  have bbox := box_new w11 (.slice bu1 bu2 bu3) (.slice bu4 bu5 bu6) (.slice bu7 bu8 bu9)
  replace af1 := af1.below ha11
  replace af2 := af2.below ha11
  replace af3 := af3.below ha11
  replace bf1 := bf1.below ha11
  replace bf2 := bf2.below ha11
  replace bf3 := bf3.below ha11
  replace cf1 := cf1.below ha11
  replace cf2 := cf2.below ha11
  replace cf3 := cf3.below ha11
  replace aacc := aacc.below ha11
  replace bacc := bacc.below ha11
  replace abox := abox.below ha11
  have bd11 := below_step ha11 bc11
  clear hb11 ha11
  go_wp2_with fail
  refine (make_any _ _ _ _ _ _ _ _ _ C _ (by exact cf1) (by exact cf2) (by exact cf3) cl3).mono ?_
  rintro e w12 ⟨vc, rfl, cacc, hb12⟩
  obtain ⟨cu1, cu2, cu3, cu4, cu5, cu6, cu7, cu8, cu9, rfl, _⟩ := id cacc.is
  have bc12 := below_step hb12 bd11
  replace af1 := af1.below hb12
  replace af2 := af2.below hb12
  replace af3 := af3.below hb12
  replace bf1 := bf1.below hb12
  replace bf2 := bf2.below hb12
  replace bf3 := bf3.below hb12
  replace cf1 := cf1.below hb12
  replace cf2 := cf2.below hb12
  replace cf3 := cf3.below hb12
  replace aacc := aacc.below hb12
  replace bacc := bacc.below hb12
  replace abox := abox.below hb12
  replace bbox := bbox.below hb12
  have ha12 := (Below.refl w12.heap.size w12).alloc (Nat.le_refl _) (.cells #[.slice cu1 cu2 cu3, .slice cu4 cu5 cu6, .slice cu7 cu8 cu9] 32)
  have cbox := box_new w12 (.slice cu1 cu2 cu3) (.slice cu4 cu5 cu6) (.slice cu7 cu8 cu9)
  replace af1 := af1.below ha12
  replace af2 := af2.below ha12
  replace af3 := af3.below ha12
  replace bf1 := bf1.below ha12
  replace bf2 := bf2.below ha12
  replace bf3 := bf3.below ha12
  replace cf1 := cf1.below ha12
  replace cf2 := cf2.below ha12
  replace cf3 := cf3.below ha12
  replace aacc := aacc.below ha12
  replace bacc := bacc.below ha12
  replace cacc := cacc.below ha12
  replace abox := abox.below ha12
  replace bbox := bbox.below ha12
  have bd12 := below_step ha12 bc12
  clear hb12 ha12
  clear af1 af2 af3 bf1 bf2 bf3 cf1 cf2 cf3
  have rua := uAcc_left (B := B) aval
  have rub := uAcc_right (A := A) bval
  have rlaw := uAcc_law (C := C) aval bval
  have abox0 := abox.c0
  have abox1 := abox.c1
  have abox2 := abox.c2
  have bbox0 := bbox.c0
  have bbox1 := bbox.c1
  have bbox2 := bbox.c2
  have cbox0 := cbox.c0
  have cbox1 := cbox.c1
  have cbox2 := cbox.c2
  go_wp2_with fail
  refine (Union_any A B _ _ _ (by exact aacc) (by exact bacc) sA sB).mono ?_
  rintro e w13 ⟨vu, rfl, uacc, hb13⟩
  obtain ⟨uu1, uu2, uu3, uu4, uu5, uu6, uu7, uu8, uu9, rfl, _⟩ := id uacc.is
  have bc13 := below_step hb13 bd12
  clear abox0 abox1 abox2
  clear bbox0 bbox1 bbox2
  clear cbox0 cbox1 cbox2
  replace aacc := aacc.below hb13
  replace bacc := bacc.below hb13
  replace cacc := cacc.below hb13
  replace abox := abox.below hb13
  replace bbox := bbox.below hb13
  replace cbox := cbox.below hb13
  have ha13 := (Below.refl w13.heap.size w13).alloc (Nat.le_refl _) (.cells #[.slice uu1 uu2 uu3, .slice uu4 uu5 uu6, .slice uu7 uu8 uu9] 32)
  have ubox := box_new w13 (.slice uu1 uu2 uu3) (.slice uu4 uu5 uu6) (.slice uu7 uu8 uu9)
  replace aacc := aacc.below ha13
  replace bacc := bacc.below ha13
  replace cacc := cacc.below ha13
  replace uacc := uacc.below ha13
  replace abox := abox.below ha13
  replace bbox := bbox.below ha13
  replace cbox := cbox.below ha13
  have bd13 := below_step ha13 bc13
  clear hb13 ha13
  have abox0 := abox.c0
  have abox1 := abox.c1
  have abox2 := abox.c2
  have bbox0 := bbox.c0
  have bbox1 := bbox.c1
  have bbox2 := bbox.c2
  have cbox0 := cbox.c0
  have cbox1 := cbox.c1
  have cbox2 := cbox.c2
  have ubox0 := ubox.c0
  have ubox1 := ubox.c1
  have ubox2 := ubox.c2
  go_wp2_with fail
  refine (Covers_any (uAcc A B) A _ _ _ (by exact uacc) (by exact aacc)).mono ?_
  rintro e w14 ⟨rfl, hb14⟩
  have bc14 := below_step hb14 bd13
  clear abox0 abox1 abox2
  clear bbox0 bbox1 bbox2
  clear cbox0 cbox1 cbox2
  clear ubox0 ubox1 ubox2
  replace aacc := aacc.below hb14
  replace bacc := bacc.below hb14
  replace cacc := cacc.below hb14
  replace uacc := uacc.below hb14
  replace abox := abox.below hb14
  replace bbox := bbox.below hb14
  replace cbox := cbox.below hb14
  replace ubox := ubox.below hb14
  clear hb14
  have abox0 := abox.c0
  have abox1 := abox.c1
  have abox2 := abox.c2
  have bbox0 := bbox.c0
  have bbox1 := bbox.c1
  have bbox2 := bbox.c2
  have cbox0 := cbox.c0
  have cbox1 := cbox.c1
  have cbox2 := cbox.c2
  have ubox0 := ubox.c0
  have ubox1 := ubox.c1
  have ubox2 := ubox.c2
  go_wp2_with fail
  refine (Covers_any (uAcc A B) B _ _ _ (by exact uacc) (by exact bacc)).mono ?_
  rintro e w15 ⟨rfl, hb15⟩
  have bc15 := below_step hb15 bc14
  clear abox0 abox1 abox2
  clear bbox0 bbox1 bbox2
  clear cbox0 cbox1 cbox2
  clear ubox0 ubox1 ubox2
  replace aacc := aacc.below hb15
  replace bacc := bacc.below hb15
  replace cacc := cacc.below hb15
  replace uacc := uacc.below hb15
  replace abox := abox.below hb15
  replace bbox := bbox.below hb15
  replace cbox := cbox.below hb15
  replace ubox := ubox.below hb15
  clear hb15
  have abox0 := abox.c0
  have abox1 := abox.c1
  have abox2 := abox.c2
  have bbox0 := bbox.c0
  have bbox1 := bbox.c1
  have bbox2 := bbox.c2
  have cbox0 := cbox.c0
  have cbox1 := cbox.c1
  have cbox2 := cbox.c2
  have ubox0 := ubox.c0
  have ubox1 := ubox.c1
  have ubox2 := ubox.c2
  have hWd : Below w15.heap.size w15 w15.drew := (Below.refl _ _).drew
  go_wp2_with fail
  cases eca : covB C A
  · have euf : covB C (uAcc A B) = false := by rw [eca] at rlaw; simpa using rlaw
    refine wp_region_held_drew (S := (fun w' => w'.cell? ⟨w10.heap.size, 0, none⟩ = some (.slice au1 au2 au3) ∧ w'.cell? ⟨w10.heap.size, 1, none⟩ = some (.slice au4 au5 au6) ∧ w'.cell? ⟨w10.heap.size, 2, none⟩ = some (.slice au7 au8 au9) ∧ w'.cell? ⟨w11.heap.size, 0, none⟩ = some (.slice bu1 bu2 bu3) ∧ w'.cell? ⟨w11.heap.size, 1, none⟩ = some (.slice bu4 bu5 bu6) ∧ w'.cell? ⟨w11.heap.size, 2, none⟩ = some (.slice bu7 bu8 bu9) ∧ w'.cell? ⟨w12.heap.size, 0, none⟩ = some (.slice cu1 cu2 cu3) ∧ w'.cell? ⟨w12.heap.size, 1, none⟩ = some (.slice cu4 cu5 cu6) ∧ w'.cell? ⟨w12.heap.size, 2, none⟩ = some (.slice cu7 cu8 cu9) ∧ w'.cell? ⟨w13.heap.size, 0, none⟩ = some (.slice uu1 uu2 uu3) ∧ w'.cell? ⟨w13.heap.size, 1, none⟩ = some (.slice uu4 uu5 uu6) ∧ w'.cell? ⟨w13.heap.size, 2, none⟩ = some (.slice uu7 uu8 uu9) ∧ Below w15.heap.size w15 w')) (by kernel_rfl) ?_ (fun hHeld => ?_)
    · refine S4 abox bbox cbox ubox ?_; assumption
    refine wpAnyH_take (i := 0) (v := ?_) rfl (by kernel_rfl) (by kernel_rfl) (by kernel_rfl) (fun _ _ _ h => h) (Or.inl ⟨by rfl, ?_⟩) (by assumption) ?_
    rotate_left
    · intro w hSw; (try dsimp only at hSw); go_simp <;> with_reducible rfl
    try simp only [Act.put, List.getElem_toArray, List.getElem_cons_succ, List.getElem_cons_zero, List.setIfInBounds_toArray, List.set_cons_zero, List.set_cons_succ]
    refine wpAnyH_take (i := 1) (v := ?_) rfl (by kernel_rfl) (by kernel_rfl) (by kernel_rfl) (fun _ _ _ h => h) (Or.inl ⟨by rfl, ?_⟩) (by assumption) ?_
    rotate_left
    · intro w hSw; (try dsimp only at hSw); go_simp <;> with_reducible rfl
    try simp only [Act.put, List.getElem_toArray, List.getElem_cons_succ, List.getElem_cons_zero, List.setIfInBounds_toArray, List.set_cons_zero, List.set_cons_succ]
    refine wpAnyH_take (i := 8) (v := ?_) rfl (by kernel_rfl) (by kernel_rfl) (by kernel_rfl) (fun _ _ _ h => h) (Or.inl ⟨by rfl, ?_⟩) (by assumption) ?_
    rotate_left
    · intro w hSw; (try dsimp only at hSw); go_simp <;> with_reducible rfl
    try simp only [Act.put, List.getElem_toArray, List.getElem_cons_succ, List.getElem_cons_zero, List.setIfInBounds_toArray, List.set_cons_zero, List.set_cons_succ]
    refine wpAnyH_take (i := 9) (v := ?_) rfl (by kernel_rfl) (by kernel_rfl) (by kernel_rfl) (fun _ _ _ h => h) (Or.inl ⟨by rfl, ?_⟩) (by assumption) ?_
    rotate_left
    · intro w hSw; (try dsimp only at hSw); go_simp <;> with_reducible rfl
    try simp only [Act.put, List.getElem_toArray, List.getElem_cons_succ, List.getElem_cons_zero, List.setIfInBounds_toArray, List.set_cons_zero, List.set_cons_succ]
    refine wpAnyH_ready (rs := [2]) (by kernel_rfl) (by simp) ?_
    refine AllReadyH.cons rfl (fun K hK => ?_) AllReadyH.nil
    go_simp
    go_at_call 13
    refine (Covers_at C A false eca _ _ _ (cacc.below (by assumption)) (aacc.below (by assumption))).mono ?_
    rintro e t0 ⟨rfl, hb20⟩
    have hW0 := below_step (w := w15) hb20 (by assumption)
    go_wp2_with fail
    refine hK.out _ _ ?_ (fun hHeld => ?_)
    · refine S4 abox bbox cbox ubox ?_; assumption
    clear hK K
    try simp only [Act.put, List.getElem_toArray, List.getElem_cons_succ, List.getElem_cons_zero, List.setIfInBounds_toArray, List.set_cons_zero, List.set_cons_succ]
    refine wpAnyH_take (i := 3) (v := ?_) rfl (by kernel_rfl) (by kernel_rfl) (by kernel_rfl) (fun _ _ _ h => h) (Or.inl ⟨by rfl, ?_⟩) (by assumption) ?_
    rotate_left
    · intro w hSw; (try dsimp only at hSw); go_simp <;> with_reducible rfl
    try simp only [Act.put, List.getElem_toArray, List.getElem_cons_succ, List.getElem_cons_zero, List.setIfInBounds_toArray, List.set_cons_zero, List.set_cons_succ]
    refine wpAnyH_take (i := 4) rfl (by kernel_rfl) (by kernel_rfl) (by kernel_rfl) (fun _ _ _ h => h) (Or.inr ⟨by rfl, rfl⟩) (by assumption) ?_
    try simp only [Act.put, List.getElem_toArray, List.getElem_cons_succ, List.getElem_cons_zero, List.setIfInBounds_toArray, List.set_cons_zero, List.set_cons_succ]
    refine wpAnyH_take (i := 5) rfl (by kernel_rfl) (by kernel_rfl) (by kernel_rfl) (fun _ _ _ h => h) (Or.inr ⟨by rfl, rfl⟩) (by assumption) ?_
    try simp only [Act.put, List.getElem_toArray, List.getElem_cons_succ, List.getElem_cons_zero, List.setIfInBounds_toArray, List.set_cons_zero, List.set_cons_succ]
    refine wpAnyH_take (i := 6) rfl (by kernel_rfl) (by kernel_rfl) (by kernel_rfl) (fun _ _ _ h => h) (Or.inr ⟨by rfl, rfl⟩) (by assumption) ?_
    try simp only [Act.put, List.getElem_toArray, List.getElem_cons_succ, List.getElem_cons_zero, List.setIfInBounds_toArray, List.set_cons_zero, List.set_cons_succ]
    refine wpAnyH_take (i := 7) (v := ?_) rfl (by kernel_rfl) (by kernel_rfl) (by kernel_rfl) (fun _ _ _ h => h) (Or.inl ⟨by rfl, ?_⟩) (by assumption) ?_
    rotate_left
    · intro w hSw; (try dsimp only at hSw); go_simp <;> with_reducible rfl
    try simp only [Act.put, List.getElem_toArray, List.getElem_cons_succ, List.getElem_cons_zero, List.setIfInBounds_toArray, List.set_cons_zero, List.set_cons_succ]
    refine wpAnyH_ready (rs := [10]) (by kernel_rfl) (by simp) ?_
    refine AllReadyH.cons rfl (fun K hK => ?_) AllReadyH.nil
    go_simp
    go_at_call 13
    refine (Covers_at C (uAcc A B) false euf _ _ _ (cacc.below (by assumption)) (uacc.below (by assumption))).mono ?_
    rintro e t2 ⟨rfl, hb22⟩
    have hW2 := below_step (w := w15) hb22 (by assumption)
    go_wp2_with fail
    refine hK.out _ _ ?_ (fun hHeld => ?_)
    · refine S4 abox bbox cbox ubox ?_; assumption
    clear hK K
    try simp only [Act.put, List.getElem_toArray, List.getElem_cons_succ, List.getElem_cons_zero, List.setIfInBounds_toArray, List.set_cons_zero, List.set_cons_succ]
    refine wpAnyH_take (i := 11) (v := ?_) rfl (by kernel_rfl) (by kernel_rfl) (by kernel_rfl) (fun _ _ _ h => h) (Or.inl ⟨by rfl, ?_⟩) (by assumption) ?_
    rotate_left
    · intro w hSw; (try dsimp only at hSw); go_simp <;> with_reducible rfl
    try simp only [Act.put, List.getElem_toArray, List.getElem_cons_succ, List.getElem_cons_zero, List.setIfInBounds_toArray, List.set_cons_zero, List.set_cons_succ]
    refine wpAnyH_take (i := 12) (v := ?_) rfl (by kernel_rfl) (by kernel_rfl) (by kernel_rfl) (fun _ _ _ h => h) (Or.inl ⟨by rfl, ?_⟩) (by assumption) ?_
    rotate_left
    · intro w hSw; (try dsimp only at hSw); go_simp <;> with_reducible rfl
    try simp only [Act.put, List.getElem_toArray, List.getElem_cons_succ, List.getElem_cons_zero, List.setIfInBounds_toArray, List.set_cons_zero, List.set_cons_succ]
    refine wpAnyH_done (by kernel_rfl) ?_ _
    go_wp2_with fail
    go_ret
    exact ⟨rfl, below_step hW2 bc15⟩
  · go_region_held3 (fun w' => w'.cell? ⟨w10.heap.size, 0, none⟩ = some (.slice au1 au2 au3) ∧ w'.cell? ⟨w10.heap.size, 1, none⟩ = some (.slice au4 au5 au6) ∧ w'.cell? ⟨w10.heap.size, 2, none⟩ = some (.slice au7 au8 au9) ∧ w'.cell? ⟨w11.heap.size, 0, none⟩ = some (.slice bu1 bu2 bu3) ∧ w'.cell? ⟨w11.heap.size, 1, none⟩ = some (.slice bu4 bu5 bu6) ∧ w'.cell? ⟨w11.heap.size, 2, none⟩ = some (.slice bu7 bu8 bu9) ∧ w'.cell? ⟨w12.heap.size, 0, none⟩ = some (.slice cu1 cu2 cu3) ∧ w'.cell? ⟨w12.heap.size, 1, none⟩ = some (.slice cu4 cu5 cu6) ∧ w'.cell? ⟨w12.heap.size, 2, none⟩ = some (.slice cu7 cu8 cu9) ∧ w'.cell? ⟨w13.heap.size, 0, none⟩ = some (.slice uu1 uu2 uu3) ∧ w'.cell? ⟨w13.heap.size, 1, none⟩ = some (.slice uu4 uu5 uu6) ∧ w'.cell? ⟨w13.heap.size, 2, none⟩ = some (.slice uu7 uu8 uu9) ∧ Below w15.heap.size w15 w')
      ((refine S4 abox bbox cbox ubox ?_; assumption))
      (first | (go_at_call_of 13 (Value.agg #[Value.slice au1 au2 au3, Value.slice au4 au5 au6, Value.slice au7 au8 au9]); refine (Covers_at C A true eca _ _ _ (cacc.below (by assumption)) (aacc.below (by assumption))).mono ?_; rintro e t0 ⟨rfl, hb20⟩; have hW0 := below_step (w := w15) hb20 (by assumption)) | (go_at_call_of 13 (Value.agg #[Value.slice bu1 bu2 bu3, Value.slice bu4 bu5 bu6, Value.slice bu7 bu8 bu9]); refine (Covers_at C B _ rfl _ _ _ (cacc.below (by assumption)) (bacc.below (by assumption))).mono ?_; rintro e t1 ⟨rfl, hb21⟩; have hW1 := below_step (w := w15) hb21 (by assumption)) | (go_at_call_of 13 (Value.agg #[Value.slice uu1 uu2 uu3, Value.slice uu4 uu5 uu6, Value.slice uu7 uu8 uu9]); refine (Covers_at C (uAcc A B) _ rfl _ _ _ (cacc.below (by assumption)) (uacc.below (by assumption))).mono ?_; rintro e t2 ⟨rfl, hb22⟩; have hW2 := below_step (w := w15) hb22 (by assumption)))
    go_wp2_with fail
    go_ret
    rw [eca] at rlaw
    exact ⟨ret_bool (by simpa using rlaw), below_step hW2 bc15⟩

end Go.Proofs.Qxb6605213a
