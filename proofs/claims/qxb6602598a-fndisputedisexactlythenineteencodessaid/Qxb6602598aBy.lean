import Derived.Test.Qxb6602598aCs
namespace Go.Proofs.Qxb6602598a
open Go.RowKit Go.Deep

theorem bz_of {w : World} {a : Option Addr} {len cap : Nat} {zs : List Int}
    (h : (a = none ∧ len = 0 ∧ cap = 0 ∧ zs = []) ∨
      ∃ x, a = some x ∧ len ≤ cap ∧ cap ≤ maxLen ∧ zs.length = cap ∧ (∀ i, i < zs.length → w.cell? (x.add i) = some (.int .u8 (zs.getD i 0))) ∧ ∀ n ∈ zs, (Lit.int .u8 n).wf = true) : ∃ bs, Bz w a len bs := by
  rcases h with ⟨rfl, rfl, rfl, rfl⟩ | ⟨x, rfl, hl, hm, hz, hc, hw⟩
  · exact ⟨[], rfl, by omega, fun j => by simp [bz], fun i hi => by omega⟩
  · have fit : ∀ i, i < cap → 0 ≤ zs.getD i 0 ∧ zs.getD i 0 < 256 := by
      intro i hi
      have hi' : i < zs.length := by omega
      have e : zs.getD i 0 = zs[i] := by simp [List.getD, hi']
      have k := hw zs[i] (List.getElem_mem hi')
      rw [e]
      simp [Lit.wf] at k
      have e1 : IntKind.u8.min = 0 := by decide
      have e2 : IntKind.u8.max = 255 := by decide
      omega
    have get : ∀ j, j < len → bz ((zs.take len).map Int.toNat) j = (zs.getD j 0).toNat := by
      intro j hj
      have h1 : j < zs.length := by omega
      simp [bz, List.getD, hj, h1]
    refine ⟨(zs.take len).map Int.toNat, by simp; omega, by unfold maxLen at hm; omega, fun j => ?_, fun i hi => ⟨x.block, x.off, ?_, fun j hj => ?_⟩⟩
    · by_cases hj : j < len
      · rw [get j hj]; have := fit j (by omega); omega
      · have : bz ((zs.take len).map Int.toNat) j = 0 := by
          unfold bz
          rw [List.getD_eq_getElem?_getD, List.getElem?_eq_none (by simp; omega)]
          rfl
        omega
    · have h0 := hc 0 (by omega)
      have := World.cell?_spot h0
      cases x
      simp [Addr.add] at this
      simp [this]
    · have s := World.cell?_spot (hc 0 (by omega))
      have h0 := hc j (by omega)
      have f := fit j (by omega)
      rw [get j hj, Int.toNat_of_nonneg f.1, ← h0]
      cases x
      simp [Addr.add] at s
      subst s
      by_cases e : j = 0
      · subst e; rfl
      · simp [Addr.add, e]
end Go.Proofs.Qxb6602598a
