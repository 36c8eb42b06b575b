import Derived.Test.Qxb6605270aDoorLd
namespace Go.Proofs.Qxb6605270aDoor
open Go.ChangeShapes Go.WideShapes Go.ChangeAt Go.RowKit

theorem iz_of {w : World} {a : Option Addr} {len cap : Nat} {zs : List Int}
    (h : (a = none ∧ len = 0 ∧ cap = 0 ∧ zs = []) ∨
      ∃ x, a = some x ∧ len ≤ cap ∧ cap ≤ maxLen ∧ zs.length = cap ∧ (∀ i, i < zs.length → w.cell? (x.add i) = some (.int .i64 (zs.getD i 0))) ∧ ∀ n ∈ zs, (Lit.int .i64 n).wf = true) : ∃ ps, Iz w a len ps := by
  rcases h with ⟨rfl, rfl, rfl, rfl⟩ | ⟨x, rfl, hl, hm, hz, hc, hw⟩
  · exact ⟨[], rfl, by omega, fun j => by simp [pz], fun i hi => by omega⟩
  · have e1 : IntKind.i64.min = -9223372036854775808 := by decide
    have e2 : IntKind.i64.max = 9223372036854775807 := by decide
    have fit : ∀ i, i < cap → -9223372036854775808 ≤ zs.getD i 0 ∧ zs.getD i 0 ≤ 9223372036854775807 := by
      intro i hi
      have hi' : i < zs.length := by omega
      have e : zs.getD i 0 = zs[i] := by simp [List.getD, hi']
      have k := hw zs[i] (List.getElem_mem hi')
      rw [e]
      simp [Lit.wf] at k
      omega
    have get : ∀ j, j < len → pz (zs.take len) j = zs.getD j 0 := by
      intro j hj
      have h1 : j < zs.length := by omega
      simp [pz, List.getD, hj, h1]
    refine ⟨zs.take len, by simp; omega, by unfold maxLen at hm; omega, fun j => ?_, fun i hi => ⟨x.block, x.off, ?_, fun j hj => ?_⟩⟩
    · by_cases hj : j < len
      · rw [get j hj]; exact fit j (by omega)
      · have : pz (zs.take len) j = 0 := by
          unfold pz
          rw [List.getD_eq_getElem?_getD, List.getElem?_eq_none (by simp; omega)]
          rfl
        omega
    · have h0 := hc 0 (by omega)
      have := World.cell?_spot h0
      cases x
      simp [Addr.add] at this
      simp [this]
    · have s := World.cell?_spot (hc 0 (by omega))
      have h0 := hc j (by omega)
      rw [get j hj, ← h0]
      cases x
      simp [Addr.add] at s
      subst s
      by_cases e : j = 0
      · subst e; rfl
      · simp [Addr.add, e]

theorem iz_open {H : Type} {enc : TypeId × Value → H} {W : World} {base : Nat} {sp : Nat → Bool} {fuel : Nat} {a : Option Addr} {len cap : Nat} {x : DataW H × List MemPlace} (hsp : ∀ b, sp b = true)
    (hf : DataW.trod enc Tryd.prog W base sp true fuel 22 (Value.cells (.slice a len cap)).toList = some x) : ∃ ps, Iz W a len ps := by
  rcases open_ints Tryd.underlying22 Tryd.underlying3 (by kernel_rfl) hf with ⟨hcs, _⟩ | ⟨y, l, c, zs, hcs, _, hl, hm, hz, _, hcell, hwz⟩
  · simp [Value.cells] at hcs
    obtain ⟨rfl, rfl, rfl⟩ := hcs
    exact iz_of (.inl ⟨rfl, rfl, rfl, rfl⟩)
  · simp [Value.cells] at hcs
    obtain ⟨rfl, rfl, rfl⟩ := hcs
    rw [hsp] at hz
    exact iz_of (.inr ⟨_, rfl, hl, hm, by simpa using hz, hcell, hwz⟩)

set_option maxRecDepth 100000 in
theorem lifted4 (os : Os) (started : os.Started) (H : Type) (enc : TypeId × Value → H) :
    ReturnsInHanded {} Tryd.checked os 4 .any (fun w args => (Rows.fnPartitionListJoinsAtABreakSpec.pre enc Tryd.prog Tryd.f4 [] false w args ∧ laidMetH Tryd.prog laid3 w) ∧ sizedMet enc Tryd.prog Tryd.f4 (OpenSpec.ofChange Rows.fnPartitionListJoinsAtABreakSpec) false w args)
      (Rows.fnPartitionListJoinsAtABreakSpec.post enc Tryd.prog Tryd.f4 false true false false) := by
  refine returnsInHanded_of_change_and (C := Tryd.checked) (X := fun w _ => laidMetH Tryd.prog laid3 w) (fun _ _ _ hh h => h.of_heap hh) own started (by kernel_rfl) Tryd.func4
    (ChangeSpec.witness_shaped (enc := enc) (C := Tryd.checked) (os := os) (X := fun w _ => laidMetH Tryd.prog laid3 w) false (World.doorLaid Tryd.prog 4000 os) #[.slice none 0 0, .slice none 0 0] 8 rfl (World.shaped_of_RefB (by kernel_rfl) (by kernel_rfl)) (by kernel_rfl) (by kernel_rfl) (by kernel_rfl) (door_met os _)) ?_
  intro W base args ds gs before hval0 hW _ _ hL _
  have hval : ∀ (j : Nat) t v, Tryd.f4.params[j]? = some t → args[j]? = some v → Value.okWide Tryd.prog W .any base t v := hval0
  have hW' := hW
  obtain ⟨p, q, hA0, hV, rfl, hfz, hnd⟩ := hW
  have hA : DataW.TrodAll enc Tryd.prog W 0 (fun _ => true) true Tryd.f4.params.toList args.toList ds p := hA0
  rw [Tryd.params4] at hA hval
  obtain ⟨v0, vs0, d0, ds0, p0, q0, hargs, rfl, rfl, h0, r0⟩ := trodAll_cons hA
  obtain ⟨v1, vs1, d1, ds1, p1, q1, rfl, rfl, rfl, h1, r1⟩ := trodAll_cons r0
  obtain ⟨rfl, rfl, rfl⟩ := trodAll_nil r1
  obtain rfl : args = #[v0, v1] := by cases args; simp_all
  obtain ⟨rfl, rfl⟩ := trodVars_none hV
  obtain ⟨a0, len0, cap0, rfl⟩ := okWide_slice Tryd.underlying22 (hval 0 22 v0 rfl rfl)
  obtain ⟨a1, len1, cap1, rfl⟩ := okWide_slice Tryd.underlying22 (hval 1 22 v1 rfl rfl)
  clear hval hval0 hA0
  have k0 := h0
  have lt0 : ∀ x ∈ p0, x.block < W.heap.size := by obtain ⟨m, hm⟩ := k0; exact DataW.trod_lt m _ _ _ hm
  have k1 := h1
  have lt1 : ∀ x ∈ p1, x.block < W.heap.size := by obtain ⟨m, hm⟩ := k1; exact DataW.trod_lt m _ _ _ hm
  obtain ⟨z0, w0⟩ : ∃ ps, Iz W a0 len0 ps := by obtain ⟨fuel, hf⟩ := h0; exact iz_open (fun _ => rfl) hf
  obtain ⟨z1, w1⟩ : ∃ ps, Iz W a1 len1 ps := by obtain ⟨fuel, hf⟩ := h1; exact iz_open (fun _ => rfl) hf
  refine (law4 a0 a1 len0 len1 cap0 cap1 z0 z1 W w0 w1 (Lib.tabBelow_of_tabIs (of_laid hL))).mono fun e W' ⟨he, bel⟩ => ?_
  subst he
  exact ⟨_, rfl, _, _, _, [], _, [], hW', trodAll_mk1 (shut_bool Tryd.underlying4 _), (trodAll_cons_mk (Below.trod laidOut (by kernel_rfl) (of_decide_eq_true (by kernel_rfl)) k0 bel lt0) (trodAll_cons_mk (Below.trod laidOut (by kernel_rfl) (of_decide_eq_true (by kernel_rfl)) k1 bel lt1) trodAll_mk0)), rfl, bel.frame _, fun h => by cases h⟩

theorem row4 : Rows.FnPartitionListJoinsAtABreakSaid :=
  OpenClaim.holds_of_wide 4 Tryd.f4 rfl rfl rfl rfl rfl rfl rfl ⟨rfl, rfl, rfl, rfl, rfl⟩ rfl rfl rfl rfl rfl (by kernel_rfl) Tryd.func4 (by kernel_rfl)
    (of_decide_eq_true (by kernel_rfl)) (by unfold Func.isWrapper; first | (rw [if_pos (by decide +kernel)]; kernel_rfl) | (rw [if_neg (by decide +kernel)]; exact ⟨rfl, rfl⟩))
    (fun os started H enc _ => lifted4 os started H enc)

theorem fnPartitionListJoinsAtABreak_proved : Rows.FnPartitionListJoinsAtABreakCardSaid :=
  Claim7.holds_tied_plain_at .later [] [.data, .data, .data] true (true, "7632688ea7ea872b8cb484cbdf4908398377b9aae7e719b9a9c4c25562b58c1b") false
    row4 (fun _ h => by cases h) (by kernel_rfl) (fun _ h => by cases h) fnPartitionListJoinsAtABreak_row_tie rfl ⟨rfl, rfl⟩ (by kernel_rfl) rfl
    (fun f fn hf hfn => by
      obtain rfl : f = 4 := Option.some.inj ((show Tryd.prog.funcNamed "example.com/rangewalk/rangewalk/zzlaws_internal_protocol_b1.FnPartitionListJoinsAtABreak" = some 4 by kernel_rfl).symm.trans hf) |>.symm
      obtain rfl : fn = Tryd.f4 := (Option.some.inj (Tryd.func4.symm.trans hfn)).symm
      exact ⟨by kernel_rfl, fun j t ht => by
        rw [Tryd.params4] at ht
        have hm : t ∈ [22, 22] := by simpa using Array.mem_of_getElem? ht
        have hall : ([22, 22].all fun u => !Tryd.prog.wantsStandIn u) = true := by kernel_rfl
        exact (show Tryd.prog.wantsStandIn t = false by simpa using List.all_eq_true.1 hall t hm)⟩)
    (by kernel_rfl)
end Go.Proofs.Qxb6605270aDoor
