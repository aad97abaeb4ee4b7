/-
  The functions of the road: isUpper, hasPrefix, allUpperLetters, parseDec, Rcode, rcodeShapeOK.
-/
import Derived.Test.Qxb6003358aDoorShelf
import Derived.Test.Qxb6003358aDoorPlain
import Derived.WalkKit
import Derived.WalkSpells
import Derived.WalkLawsBesides
import Derived.Deep.QuietTactic
import Derived.BigQuiet
import Derived.Deep.LoopGhost
import Derived.Lib.SmallJoins
import Derived.Lib.ItoaMem
namespace Go.Proofs.Qxb6003358aDoor
open Go.RowKit

/-- It returned true; nothing that was there has turned. -/
def RetTrue (w : World) (e : Ending) (w' : World) : Prop := e = .returned (.bool true) ∧ Below w.heap.size w w'
theorem retTrue {w w' : World} (h : Below w.heap.size w w') : RetTrue w (.returned (.bool true)) w' := ⟨rfl, h⟩
/-- It returned this string; nothing that was there has turned. -/
def RetStr (w : World) (s : ByteArray) (e : Ending) (w' : World) : Prop := e = .returned (.string s) ∧ Below w.heap.size w w'
theorem retStr {w w' : World} {s t : ByteArray} (hs : t = s) (h : Below w.heap.size w w') : RetStr w s (.returned (.string t)) w' := ⟨by rw [hs], h⟩
/-- It returned this number and true. -/
def RetNum (w : World) (n : Int) (e : Ending) (w' : World) : Prop := e = .returned (.tuple #[.int .i64 n, .bool true]) ∧ Below w.heap.size w w'
theorem retNum {w w' : World} {n m : Int} (hn : m = n) (h : Below w.heap.size w w') : RetNum w n (.returned (.tuple #[.int .i64 m, .bool true])) w' := ⟨by rw [hn], h⟩

theorem up14 (c : UInt8) (h : 65 ≤ c.toNat ∧ c.toNat ≤ 90) (w : World) : Calls Tryd.prog 14 #[.int .u8 c.toNat] w fun e w' => e = .returned (.bool true) ∧ w' = w := by
  obtain ⟨h1, h2⟩ := h
  go_enter Tryd.func14, Tryd.ntmps14
  go_wp2
  go_ret
  exact ⟨congrArg (fun b => Ending.returned (.bool b)) (decide_eq_true (by omega)), rfl⟩

set_option maxHeartbeats 400000 in
theorem all12 (s : ByteArray) (h0 : 0 < s.size) (hs : s.size ≤ 100) (h : ∀ k (hk : k < s.size), 65 ≤ s[k].toNat ∧ s[k].toNat ≤ 90) (w : World) :
    Calls Tryd.prog 12 #[.string s] w fun e w' => RetTrue w e w' := by
  have hz : ((s.size : Int) == 0) = false := beq_eq_false_iff_ne.2 (by omega)
  go_enter Tryd.func12, Tryd.ntmps12
  go_wp2
  go_loopg [3] s.size (fun gk i wr => ∃ k : Nat, k + gk = s.size ∧ i = .int .i64 k ∧ w = wr)
  case atStart => exact ⟨0, by omega, rfl, rfl⟩
  case round =>
    obtain ⟨k, hk, rfl, rfl⟩ := hrel
    by_cases hlt : k < s.size
    · have hu := h k hlt
      have HK : Hid (k + gk = s.size) := hk
      clear h hk
      go_wp2_with (go_at_call 14; refine (up14 _ hu _).mono ?_; rintro e w' ⟨rfl, rfl⟩)
      go_roundg (gk - 1)
      case measure => have := HK.out; omega
      case rel => exact ⟨k + 1, by have := HK.out; omega, by go_num, rfl⟩
    · clear h
      go_wp2
      go_ret
      exact retTrue (Below.refl _ _)

set_option maxHeartbeats 400000 in
theorem pre10 (s p : ByteArray) (hle : p.size ≤ s.size) (hs : s.size ≤ 100) (h : ∀ k (hp : k < p.size) (hk : k < s.size), s[k] = p[k]) (w : World) :
    Calls Tryd.prog 10 #[.string s, .string p] w fun e w' => RetTrue w e w' := by
  go_enter Tryd.func10, Tryd.ntmps10
  go_wp2
  go_loopg [5] p.size (fun gk i wr => ∃ k : Nat, k + gk = p.size ∧ i = .int .i64 k ∧ Below w.heap.size w wr)
  case atStart => exact ⟨0, by omega, rfl, Below.refl _ _⟩
  case round =>
    obtain ⟨k, hk, rfl, hnx⟩ := hrel
    by_cases hlt : k < p.size
    · have hks : k < s.size := by omega
      have he := h k hlt hks
      have q1 : (k : Int) < p.size := by omega
      have q2 : (k : Int) < s.size := by omega
      have HK : Hid (k + gk = p.size) := hk
      clear h hk
      go_wp2
      go_quiet (fail)
      go_wp2
      go_roundg (gk - 1)
      case measure => have := HK.out; omega
      case rel => exact ⟨k + 1, by have := HK.out; omega, by go_num, below_drewN hnx _⟩
    · clear h
      go_wp2
      go_ret
      exact retTrue hnx

theorem take_snoc (s : ByteArray) (k : Nat) (h : k < s.size) : s.data.toList.take (k + 1) = s.data.toList.take k ++ [s[k]] := by
  rw [List.take_succ_eq_append_getElem (by simpa using h)]; rfl
theorem take_full (s : ByteArray) : s.data.toList.take s.size = s.data.toList := List.take_of_length_le (by simp)
/-- As many digits, so small the number. -/
theorem val_le : ∀ (n : Nat) (l : List UInt8), l.length = n → (∀ x ∈ l, 48 ≤ x.toNat ∧ x.toNat ≤ 57) → val l < 10 ^ n := by
  intro n
  induction n with
  | zero => intro l hl _; rw [List.eq_nil_of_length_eq_zero hl]; decide
  | succ n ih =>
    intro l hl hd
    obtain ⟨i, x, rfl⟩ : ∃ i x, l = i ++ [x] := ⟨l.dropLast, l.getLast (by intro h; rw [h] at hl; simp at hl), (List.dropLast_concat_getLast _).symm⟩
    have h1 := ih i (by simpa using hl) (fun y hy => hd y (by simp [hy]))
    have h2 := hd x (by simp)
    rw [val_snoc, Nat.pow_succ]
    omega

set_option maxHeartbeats 1000000 in
theorem dec11 (t : ByteArray) (h2 : 2 ≤ t.size) (h3 : t.size ≤ 3) (hd : ∀ x ∈ t.data.toList, 48 ≤ x.toNat ∧ x.toNat ≤ 57) (h0 : ∀ x, t.data.toList.head? = some x → x.toNat ≠ 48) (w : World) :
    Calls Tryd.prog 11 #[.string t] w fun e w' => RetNum w (val t.data.toList) e w' := by
  have hz : ((t.size : Int) == 0) = false := beq_eq_false_iff_ne.2 (by omega)
  have hp : 0 < t.size := by omega
  have hhd : t.data.toList.head? = some t[0] := by
    rw [List.head?_eq_getElem?, Array.getElem?_toList]
    exact Array.getElem?_eq_getElem hp
  have hn0 := h0 _ hhd
  have hz0 : ((t[0].toNat : Int) == 48) = false := beq_eq_false_iff_ne.2 (by omega)
  have hd1 : decide ((5 : Int) < (t.size : Int)) = false := decide_eq_false (by omega)
  have hd2 : decide ((1 : Int) < (t.size : Int)) = true := decide_eq_true (by omega)
  have hv : ∀ k, k ≤ t.size → val (t.data.toList.take k) < 1000 := fun k hk => by
    have := val_le k (t.data.toList.take k) (by simp; omega) (fun x hx => hd x (List.mem_of_mem_take hx))
    have : 10 ^ k ≤ 10 ^ 3 := Nat.pow_le_pow_right (by omega) (by omega)
    omega
  have hat : ∀ k (hk : k < t.size), 48 ≤ t[k].toNat ∧ t[k].toNat ≤ 57 := fun k hk => hd _ (by
    have : t[k] = t.data.toList[k]'(by simpa using hk) := rfl
    rw [this]
    exact List.getElem_mem _)
  clear hd h0 hhd hn0
  go_enter Tryd.func11, Tryd.ntmps11
  go_wp2
  go_loopg [4, 5, 6] t.size (fun gk v i _ wr => ∃ (k : Nat) (z : Int), k + gk = t.size ∧ i = .int .i64 k ∧ v = .int .i64 z ∧ Hid (z = val (t.data.toList.take k)) ∧ 0 ≤ z ∧ z ≤ 1000 ∧ w = wr)
  case atStart => exact ⟨0, 0, by omega, rfl, rfl, rfl, by omega, by omega, rfl⟩
  case round =>
    obtain ⟨k, z, hk, rfl, rfl, HZ, hz1, hz2, rfl⟩ := hrel
    by_cases hlt : k < t.size
    · obtain ⟨hc1, hc2⟩ := hat k hlt
      have hv1 := hv (k + 1) (by omega)
      rw [take_snoc _ _ hlt, val_snoc] at hv1
      have HV : Hid (val (t.data.toList.take k) * 10 + (t[k].toNat - 48) < 1000) := hv1
      have HK : Hid (k + gk = t.size) := hk
      clear hat hv hk hv1
      go_wp2
      go_roundg (gk - 1)
      case measure => have := HK.out; omega
      case rel =>
        have e1 := HZ.out
        have e2 := HV.out
        exact ⟨k + 1, _, by have := HK.out; omega, by go_num, rfl, by unfold Hid; rw [take_snoc _ _ hlt, val_snoc]; omega, by omega, by omega, rfl⟩
    · have hkn : k = t.size := by omega
      have HE : Hid (z = val t.data.toList) := by unfold Hid; rw [HZ.out, hkn, take_full]
      clear hat hv hkn
      go_wp2
      go_ret2
      exact retNum HE.out (Below.refl _ _)

end Go.Proofs.Qxb6003358aDoor
