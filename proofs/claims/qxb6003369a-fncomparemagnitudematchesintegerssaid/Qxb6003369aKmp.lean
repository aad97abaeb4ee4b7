/-
  Plain facts on borders, with no program in sight: what the failure table of Knuth, Morris and Pratt holds.
-/
import Derived.Below
namespace Go.Proofs.Qxb6003369a

/-- The start of length l of P[0..i] is what P[0..i] ends with. -/
def Brd (P : Nat → Int) (i l : Nat) : Prop := ∀ j, j < l → P j = P (i + 1 - l + j)
def brdB (P : Nat → Int) (i l : Nat) : Bool := (List.range l).all fun j => P j == P (i + 1 - l + j)
theorem brdB_iff (P : Nat → Int) (i l : Nat) : brdB P i l = true ↔ Brd P i l := by
  simp [brdB, Brd]
/-- The longest border of P[0..i] of length at most l. -/
def fb (P : Nat → Int) (i : Nat) : Nat → Nat
  | 0 => 0
  | l + 1 => if brdB P i (l + 1) then l + 1 else fb P i l
/-- The longest proper border of P[0..i]. -/
def lb (P : Nat → Int) (i : Nat) : Nat := fb P i i

theorem fb_le (P : Nat → Int) (i l : Nat) : fb P i l ≤ l := by
  induction l with
  | zero => exact Nat.le_refl _
  | succ l ih => simp only [fb]; split <;> omega
theorem fb_brd (P : Nat → Int) (i l : Nat) : Brd P i (fb P i l) := by
  induction l with
  | zero => intro j hj; simp [fb] at hj
  | succ l ih =>
    simp only [fb]
    split
    · exact (brdB_iff ..).1 (by assumption)
    · exact ih
theorem fb_max (P : Nat → Int) (i l : Nat) {m : Nat} (hm : m ≤ l) (h : Brd P i m) : m ≤ fb P i l := by
  induction l with
  | zero => omega
  | succ l ih =>
    simp only [fb]
    by_cases e : m = l + 1
    · subst e
      rw [if_pos ((brdB_iff ..).2 h)]
      exact Nat.le_refl _
    · split
      · omega
      · exact ih (by omega)
theorem lb_le (P : Nat → Int) (i : Nat) : lb P i ≤ i := fb_le P i i

/-- A border of P[0..i+1] gives one of P[0..i], shorter by one. -/
theorem brd_pred {P : Nat → Int} {i l : Nat} (hl : l ≤ i + 1) (h : Brd P (i + 1) (l + 1)) : Brd P i l := by
  intro j hj
  have := h j (by omega)
  rw [this]
  congr 1
  omega
/-- A border of a border is a border. -/
theorem brd_trans {P : Nat → Int} {i k m : Nat} (hk : 1 ≤ k) (hki : k ≤ i + 1) (hm : m ≤ k) (h : Brd P i k) (h' : Brd P (k - 1) m) : Brd P i m := by
  intro j hj
  rw [h' j hj]
  have := h (k - 1 + 1 - m + j) (by omega)
  rw [this]
  congr 1
  omega
/-- The shorter of two borders is a border of the longer. -/
theorem brd_inner {P : Nat → Int} {i k m : Nat} (hk : 1 ≤ k) (hki : k ≤ i + 1) (hm : m ≤ k) (h : Brd P i k) (h' : Brd P i m) : Brd P (k - 1) m := by
  intro j hj
  rw [h' j hj]
  have := h (k - 1 + 1 - m + j) (by omega)
  rw [this]
  congr 1
  omega

/-- The search's invariant at place i + 1: k is a border of P[0..i], and no border of P[0..i+1] is longer than k + 1. -/
def KInv (P : Nat → Int) (i k : Nat) : Prop := k ≤ i ∧ Brd P i k ∧ ∀ l, l ≤ i + 1 → Brd P (i + 1) l → l ≤ k + 1

theorem kinv_start (P : Nat → Int) (i : Nat) : KInv P i (lb P i) := by
  refine ⟨lb_le P i, fb_brd P i i, fun l hl h => ?_⟩
  cases l with
  | zero => omega
  | succ l =>
    have := fb_max P i i (m := l) (by omega) (brd_pred (by omega) h)
    unfold lb
    omega

theorem kinv_step {P : Nat → Int} {i k : Nat} (h : KInv P i k) (hk : 1 ≤ k) (hne : P (i + 1) ≠ P k) : KInv P i (lb P (k - 1)) := by
  obtain ⟨h1, h2, h3⟩ := h
  have hl := lb_le P (k - 1)
  refine ⟨by omega, brd_trans hk (by omega) (by omega) h2 (fb_brd P (k - 1) (k - 1)), fun l hli hb => ?_⟩
  have hlk := h3 l hli hb
  cases l with
  | zero => omega
  | succ l =>
    have hne' : l ≠ k := by
      intro e
      subst e
      have := hb l (by omega)
      apply hne
      rw [this]
      congr 1
      omega
    have hp : Brd P i l := brd_pred (by omega) hb
    have hq : Brd P (k - 1) l := brd_inner hk (by omega) (by omega) h2 hp
    have := fb_max P (k - 1) (k - 1) (m := l) (by omega) hq
    unfold lb
    omega

theorem kinv_hit {P : Nat → Int} {i k : Nat} (h : KInv P i k) (he : P (i + 1) = P k) : lb P (i + 1) = k + 1 := by
  obtain ⟨h1, h2, h3⟩ := h
  have hb : Brd P (i + 1) (k + 1) := by
    intro j hj
    by_cases e : j = k
    · subst e
      rw [← he]
      congr 1
      omega
    · rw [h2 j (by omega)]
      congr 1
      omega
  have h4 := fb_max P (i + 1) (i + 1) (m := k + 1) (by omega) hb
  have h5 := h3 (lb P (i + 1)) (lb_le P (i + 1)) (fb_brd P (i + 1) (i + 1))
  unfold lb at *
  omega

theorem kinv_miss {P : Nat → Int} {i : Nat} (h : KInv P i 0) (hne : P (i + 1) ≠ P 0) : lb P (i + 1) = 0 := by
  obtain ⟨h1, h2, h3⟩ := h
  have h5 := h3 (lb P (i + 1)) (lb_le P (i + 1)) (fb_brd P (i + 1) (i + 1))
  have hb : Brd P (i + 1) (lb P (i + 1)) := fb_brd P (i + 1) (i + 1)
  by_cases e : lb P (i + 1) = 1
  · rw [e] at hb
    have := hb 0 (by omega)
    exfalso
    apply hne
    rw [this]
    congr 1
  · omega

theorem lb_zero (P : Nat → Int) : lb P 0 = 0 := rfl

end Go.Proofs.Qxb6003369a
