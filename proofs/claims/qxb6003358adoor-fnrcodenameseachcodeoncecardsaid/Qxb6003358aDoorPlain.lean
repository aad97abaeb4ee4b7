/-
  Plain facts on the texts of the response codes, with no program in sight.
-/
import Derived.Lib.ItoaNum
namespace Go.Proofs.Qxb6003358aDoor

/-- The mnemonics of the codes 0 .. 10. -/
def names : List (List UInt8) := [[78, 79, 69, 82, 82, 79, 82], [70, 79, 82, 77, 69, 82, 82], [83, 69, 82, 86, 70, 65, 73, 76], [78, 88, 68, 79, 77, 65, 73, 78], [78, 79, 84, 73, 77, 80], [82, 69, 70, 85, 83, 69, 68], [89, 88, 68, 79, 77, 65, 73, 78], [89, 88, 82, 82, 83, 69, 84], [78, 88, 82, 82, 83, 69, 84], [78, 79, 84, 65, 85, 84, 72], [78, 79, 84, 90, 79, 78, 69]]
/-- The decimal digits of a number from 10 to 999. -/
def dig (c : Nat) : List UInt8 :=
  if c < 100 then [UInt8.ofNat (48 + c / 10), UInt8.ofNat (48 + c % 10)] else [UInt8.ofNat (48 + c / 100), UInt8.ofNat (48 + c / 10 % 10), UInt8.ofNat (48 + c % 10)]
/-- The text of a code. -/
def rcL (c : Nat) : List UInt8 := if c < 11 then names.getD c [] else [82, 67, 79, 68, 69] ++ dig c
def rc (c : Nat) : ByteArray := ⟨(rcL c).toArray⟩

theorem dec_dig (c : Nat) (h1 : 10 ≤ c) (h2 : c < 1000) : Lib.decDigits c = dig c := by
  unfold dig
  by_cases h : c < 100
  · rw [if_pos h, Lib.decDigits, dif_neg (by omega), Lib.decDigits, dif_pos (by omega)]
    rfl
  · rw [if_neg h, Lib.decDigits, dif_neg (by omega), Lib.decDigits, dif_neg (by omega), Lib.decDigits, dif_pos (by omega), show c / 10 / 10 = c / 100 by omega]
    rfl

/-- The number that digits say. -/
def val (l : List UInt8) : Nat := l.foldl (fun a c => a * 10 + (c.toNat - 48)) 0
theorem val_snoc (l : List UInt8) (c : UInt8) : val (l ++ [c]) = val l * 10 + (c.toNat - 48) := by simp [val]

/-- From a text back to its code. -/
def inv (l : List UInt8) : Nat := if names.contains l then names.idxOf l else val (l.drop 5)

theorem inv_rc (c : Nat) (h : c < 256) : inv (rcL c) = c := by
  have key : ∀ x : Fin 256, inv (rcL x.val) = x.val := by decide +kernel
  exact key ⟨c, h⟩

theorem rc_inj {a b : Nat} (ha : a < 256) (hb : b < 256) (h : rc a = rc b) : a = b := by
  have : rcL a = rcL b := by
    have := congrArg (fun s : ByteArray => s.data.toList) h
    simpa [rc] using this
  rw [← inv_rc a ha, this, inv_rc b hb]

/-- What the shape check asks of a text from code 11 on. -/
theorem rc_shape (c : Nat) (h1 : 11 ≤ c) (h2 : c < 256) :
    ∃ t : List UInt8, rcL c = [82, 67, 79, 68, 69] ++ t ∧ 2 ≤ t.length ∧ t.length ≤ 3 ∧ (∀ x ∈ t, 48 ≤ x.toNat ∧ x.toNat ≤ 57) ∧ (∀ x, t.head? = some x → x.toNat ≠ 48) ∧ val t = c := by
  refine ⟨dig c, by rw [rcL, if_neg (by omega)], ?_⟩
  have key : ∀ x : Fin 256, 11 ≤ x.val → 2 ≤ (dig x.val).length ∧ (dig x.val).length ≤ 3 ∧ (∀ y ∈ dig x.val, 48 ≤ y.toNat ∧ y.toNat ≤ 57) ∧ ((dig x.val).headD 0).toNat ≠ 48 ∧ val (dig x.val) = x.val := by decide +kernel
  obtain ⟨k1, k2, k3, k4, k5⟩ := key ⟨c, h2⟩ h1
  refine ⟨k1, k2, k3, fun x hx => ?_, k5⟩
  cases hd : dig c with
  | nil => rw [hd] at hx; cases hx
  | cons y ys =>
    rw [hd] at hx
    simp only [List.head?_cons, Option.some.injEq] at hx
    subst hx
    simpa [hd] using k4

end Go.Proofs.Qxb6003358aDoor
