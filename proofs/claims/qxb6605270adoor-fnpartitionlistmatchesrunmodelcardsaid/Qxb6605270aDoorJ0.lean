import Derived.Test.Qxb6605270aDoorCl
import Derived.Test.Qxb6605270aDoorJn
namespace Go.Proofs.Qxb6605270aDoor
open Go.RowKit Go.Shelf Go.Deep

theorem ret_bool {a b : Bool} (h : a = b) : Ending.returned (.bool a) = .returned (.bool b) := by rw [h]
theorem below_step {w W w1 : World} (hb : Below W.heap.size W w1) (h : Below w.heap.size w W) : Below w.heap.size w w1 := h.trans (hb.mono h.size)

theorem tab_at {w W : World} (hT : Lib.TabBelow Tryd.prog w.heap.size w "internal/strconv.uint64pow10" .u64 Lib.pow10Tab) (hb : Below w.heap.size w W) :
    Lib.TabBelow Tryd.prog W.heap.size W "internal/strconv.uint64pow10" .u64 Lib.pow10Tab := Lib.tabBelow_of_tabIs (hT.on hb).here

theorem Iz.nil {w : World} {a : Option Addr} {n : Nat} {ps : List Int} (h : Iz w a n ps) (h0 : n = 0) : ps = [] := by
  subst h0; exact List.length_eq_zero_iff.1 h.len

theorem ics_append {a b : List Int} {n m : Nat} (ha : a.length = n) (hb : b.length = m) : ics a n ++ ics b m = ics (a ++ b) (n + m) := by
  subst ha hb
  apply List.ext_getElem?
  intro j
  by_cases h : j < a.length
  · rw [List.getElem?_append_left (by rw [ics_len]; exact h), ics_get h, ics_get (by omega), pz_left h]
  · rw [List.getElem?_append_right (by rw [ics_len]; omega), ics_len]
    by_cases h2 : j < a.length + b.length
    · rw [ics_get (show j - a.length < b.length by omega), ics_get h2]
      have e := pz_right a b (j - a.length)
      rw [show a.length + (j - a.length) = j from by omega] at e
      rw [e]
    · rw [List.getElem?_eq_none (by rw [ics_len]; omega), List.getElem?_eq_none (by rw [ics_len]; omega)]

theorem rng_append {a b : List Int} (ha : ∀ j, -9223372036854775808 ≤ pz a j ∧ pz a j ≤ 9223372036854775807) (hb : ∀ j, -9223372036854775808 ≤ pz b j ∧ pz b j ≤ 9223372036854775807) (j : Nat) : -9223372036854775808 ≤ pz (a ++ b) j ∧ pz (a ++ b) j ≤ 9223372036854775807 := by
  by_cases h : j < a.length
  · rw [pz_left h]; exact ha j
  · have e := pz_right a b (j - a.length)
    rw [show a.length + (j - a.length) = j from by omega] at e
    rw [e]; exact hb _

/-- A row of one's own that holds the ints. -/
theorem Iz.own {W : World} {B g N cap : Nat} {ps : List Int} (hl : ps.length = N) (hN : N ≤ 1048576) (hr : ∀ j, -9223372036854775808 ≤ pz ps j ∧ pz ps j ≤ 9223372036854775807) (h : W.ownsRow B 3 1 (.slice (some ⟨g, 0, none⟩) N cap) N (ics ps N)) : Iz W (some ⟨g, 0, none⟩) N ps :=
  ⟨hl, by omega, hr, fun _ _ => ⟨g, 0, rfl, fun j hj => by
    rw [Nat.zero_add, h.cellAt j (by omega), ics_get hj]⟩⟩

theorem app0 (W : World) (ty : TypeId) (g sLen sCap : Nat) (p : Option Addr) (c : Nat) (hle : sLen ≤ sCap) :
    (Builtin.append_ #[22, 22] ty #[.slice (some ⟨g, 0, none⟩) sLen sCap, .slice p 0 c]).run Tryd.prog W = .ok (.slice (some ⟨g, 0, none⟩) sLen sCap) W := by
  obtain ⟨i0, hi, hz0, hz1, hz2⟩ := info_parts Tryd.infoInt
  cases p with
  | none => simp [Builtin.append_, run_underlying Tryd.underlying22, sizeOf, typeInfo, hi, Builtin.lenOf, Builtin.firstCells, hle, storeCells]
  | some q =>
    have hl := run_loadCells_list (P := Tryd.prog) W q [] (fun j v h => by simp at h)
    simp only [List.length_nil] at hl
    simp [Builtin.append_, run_underlying Tryd.underlying22, sizeOf, typeInfo, hi, Builtin.lenOf, Builtin.firstCells, hle, storeCells, hl]

theorem wpList_app0 {W : World} {ops : Array Oper} {rest : List Oper} {o : Oper} {a : Act} {Q : Exit → Act → World → Prop} (hgd : o.guard = none) (s x : Operand)
    (ho : o.op = .call { callee := .builtin .append, args := #[s, x], argTypes := #[22, 22] }) (g sLen sCap : Nat) (p : Option Addr) (c : Nat) (hle : sLen ≤ sCap)
    (hs : a.eval s = .slice (some ⟨g, 0, none⟩) sLen sCap) (hx : a.eval x = .slice p 0 c)
    (h : wpList Tryd.prog ops Q rest (a.put o.dst (.slice (some ⟨g, 0, none⟩) sLen sCap)) W) : wpList Tryd.prog ops Q (o :: rest) a W := by
  refine wpList_plain hgd fun K hK => ?_
  have hrun := app0 W o.type g sLen sCap p c hle
  unfold Oper.wp
  simp [execOp, ho, resolve, invoke, builtin, hs, hx, hrun, Result.andThen]
  exact hK _ _ h

theorem own_room {W : World} {B g N cap : Nat} {xs : List Value} (h : W.ownsRow B 3 1 (.slice (some ⟨g, 0, none⟩) N cap) N xs) : N ≤ cap := by
  rcases h.2 with ⟨e, _⟩ | ⟨g', cap', cur, e, _, _, hr, _⟩
  · cases e
  · cases e; exact hr
end Go.Proofs.Qxb6605270aDoor
