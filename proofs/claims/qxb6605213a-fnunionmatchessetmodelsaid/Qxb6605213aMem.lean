import Derived.Test.Qxb6605213aCont
namespace Go.Proofs.Qxb6605213a
open Go.RowKit

structure ML where
  mode : Nat
  whole : Bool
  read : List Nat
  write : List Nat

structure Acc where
  read : List Nat
  write : List Nat
  modes : List ML

def mlNil : ML := ⟨0, false, [], []⟩
def ml (ms : List ML) (i : Nat) : ML := ms.getD i mlNil

/-- 'modeLock.covers'. -/
def mlCov (l k : ML) : Bool := l.whole || (!k.whole && contB l.read k.read && contB l.write k.write)

theorem cell_below {w w' : World} (hb : Below w.heap.size w w') {a : Addr} {v : Value} (hc : w.cell? a = some v) : w'.cell? a = some v := (hb.cell (World.block_lt_of_cell? w a hc)).trans hc

theorem Wd.below {w w' : World} {a : Option Addr} {n : Nat} {zs : List Nat} (h : Wd w a n zs) (hb : Below w.heap.size w w') : Wd w' a n zs :=
  ⟨h.len, h.fit, h.max, fun i hi => by
    obtain ⟨b, o, e, hc⟩ := h.cell i hi
    exact ⟨b, o, e, fun j hj => cell_below hb (hc j hj)⟩⟩

theorem below_drewN {B : Nat} {a w : World} (h : Below B a w) (n : Nat) : Below B a (w.drewN n) := by
  induction n with
  | zero => exact h
  | succ n ih => exact ih.drew

/-- The lock m lies in four cells from ⟨b, o⟩ on. -/
structure MlAt (w : World) (b o : Nat) (m : ML) (ra : Option Addr) (rn rc : Nat) (wa : Option Addr) (wn wc : Nat) : Prop where
  c0 : w.cell? ⟨b, o, none⟩ = some (.int .u8 (m.mode : Nat))
  c1 : w.cell? ⟨b, o + 1, none⟩ = some (.bool m.whole)
  c2 : w.cell? ⟨b, o + 2, none⟩ = some (.slice ra rn rc)
  c3 : w.cell? ⟨b, o + 3, none⟩ = some (.slice wa wn wc)
  hr : Wd w ra rn m.read
  hw : Wd w wa wn m.write
  lt : m.mode < 256

theorem MlAt.below {w w' : World} {b o : Nat} {m : ML} {ra : Option Addr} {rn rc : Nat} {wa : Option Addr} {wn wc : Nat} (h : MlAt w b o m ra rn rc wa wn wc) (hb : Below w.heap.size w w') : MlAt w' b o m ra rn rc wa wn wc :=
  ⟨cell_below hb h.c0, cell_below hb h.c1, cell_below hb h.c2, cell_below hb h.c3, h.hr.below hb, h.hw.below hb, h.lt⟩

/-- The slice (a, n) of locks holds ms. -/
structure Ms (w : World) (a : Option Addr) (n : Nat) (ms : List ML) : Prop where
  len : ms.length = n
  max : n ≤ 9223372036854775807
  cell : ∀ i, i < n → ∃ b o, a = some ⟨b, o, none⟩ ∧ ∀ j, j < n → ∃ ra rn rc wa wn wc, MlAt w b (o + j * 4) (ml ms j) ra rn rc wa wn wc

theorem Ms.below {w w' : World} {a : Option Addr} {n : Nat} {ms : List ML} (h : Ms w a n ms) (hb : Below w.heap.size w w') : Ms w' a n ms :=
  ⟨h.len, h.max, fun i hi => by
    obtain ⟨b, o, e, hc⟩ := h.cell i hi
    refine ⟨b, o, e, fun j hj => ?_⟩
    obtain ⟨ra, rn, rc, wa, wn, wc, hm⟩ := hc j hj
    exact ⟨ra, rn, rc, wa, wn, wc, hm.below hb⟩⟩

set_option maxHeartbeats 400000 in
theorem covers_any (l k : ML) (a1 a2 b1 b2 : Option Addr) (n1 n2 c1 c2 m1 m2 d1 d2 : Nat) (w : World) (h1 : Wd w a1 n1 l.read) (h2 : Wd w a2 n2 l.write) (g1 : Wd w b1 m1 k.read) (g2 : Wd w b2 m2 k.write) :
    Calls Try.prog 30 #[.agg #[.int .u8 (l.mode : Nat), .bool l.whole, .slice a1 n1 c1, .slice a2 n2 c2], .agg #[.int .u8 (k.mode : Nat), .bool k.whole, .slice b1 m1 d1, .slice b2 m2 d2]] w fun e w' => e = .returned (.bool (mlCov l k)) ∧ Below w.heap.size w w' := by
  obtain ⟨lm, lw, lr, lx⟩ := l
  obtain ⟨km, kw, kr, kx⟩ := k
  have bel : ∀ o1 o2, Below w.heap.size w ((w.alloc o1).alloc o2) := fun o1 o2 => ((Below.refl _ _).alloc (Nat.le_refl _) _).alloc (by simp) _
  cases lw
  · cases kw
    · cases hc : contB lr kr
      · go_enter Try.func30, Try.ntmps30
        go_wp2_with fail
        refine (contains_any _ _ _ _ _ _ lr kr _ (by exact h1.below (bel _ _)) (by exact g1.below (bel _ _))).mono ?_
        rintro e w1 ⟨rfl, n, rfl⟩
        go_wp2_with fail
        go_ret
        exact ⟨ret_bool (by simp [mlCov, hc]), below_drewN (bel _ _) _⟩
      · go_enter Try.func30, Try.ntmps30
        go_wp2_with fail
        refine (contains_any _ _ _ _ _ _ lr kr _ (by exact h1.below (bel _ _)) (by exact g1.below (bel _ _))).mono ?_
        rintro e w1 ⟨rfl, n, rfl⟩
        go_wp2_with fail
        refine (contains_any _ _ _ _ _ _ lx kx _ (by exact h2.below (below_drewN (bel _ _) _)) (by exact g2.below (below_drewN (bel _ _) _))).mono ?_
        rintro e w1 ⟨rfl, n, rfl⟩
        go_wp2_with fail
        go_ret
        exact ⟨ret_bool (by simp [mlCov, hc]), below_drewN (bel _ _) _⟩
    · go_enter Try.func30, Try.ntmps30
      go_wp2_with fail
      go_ret
      exact ⟨ret_bool (by simp [mlCov]), bel _ _⟩
  · go_enter Try.func30, Try.ntmps30
    go_wp2_with fail
    go_ret
    exact ⟨ret_bool (by simp [mlCov]), bel _ _⟩
end Go.Proofs.Qxb6605213a
