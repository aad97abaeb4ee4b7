/-
  The third law's plain facts: names that fold alike; the toggled labels.
-/
import Derived.Test.Qxb6003358aFold
namespace Go.Proofs.Qxb6003358a
open Go.RowKit

theorem wl_congr {S T : Nat → ByteArray} {n : Nat} (h : ∀ i, i < n → S i = T i) : wl S n = wl T n := by
  induction n with
  | zero => rfl
  | succ n ih => rw [wl, wl, ih (fun i hi => h i (by omega)), h n (by omega)]
theorem wireOf_congr {S T : Nat → ByteArray} {n : Nat} (h : ∀ i, i < n → S i = T i) : wireOf n S = wireOf n T := by
  unfold wireOf
  rw [wl_congr h]
theorem wlen_congr {S T : Nat → ByteArray} {n : Nat} (h : ∀ i, i < n → (S i).size = (T i).size) : wlen S n = wlen T n := by
  induction n with
  | zero => rfl
  | succ n ih => rw [wlen, wlen, ih (fun i hi => h i (by omega)), h n (by omega)]

/-- The first n labels fold alike. -/
def Alike (n : Nat) (S T : Nat → ByteArray) : Prop := ∀ i, i < n → lowA (T i) = lowA (S i)
theorem Alike.good {n : Nat} {S T : Nat → ByteArray} (h : Alike n S T) (hG : Good n S) : Good n T := by
  have e : ∀ i, i < n → (T i).size = (S i).size := fun i hi => low_alike (h i hi)
  exact ⟨hG.1, fun i hi => by rw [e i hi]; exact hG.2.1 i hi, by rw [wlen_congr e]; exact hG.2.2⟩
theorem Alike.low {n : Nat} {S T : Nat → ByteArray} (h : Alike n S T) : wireOf n (lowS T) = wireOf n (lowS S) := wireOf_congr h

theorem lowB_idem (c : UInt8) : lowB (lowB c) = lowB c := by
  have hc := UInt8.toNat_lt c
  by_cases h : 65 ≤ c.toNat ∧ c.toNat ≤ 90
  · have := lowB_yes h
    exact lowB_no (by omega)
  · rw [lowB_no h, lowB_no h]
theorem lowA_idem (s : ByteArray) : lowA (lowA s) = lowA s := by
  unfold lowA
  congr 1
  rw [Array.map_map]
  apply Array.map_congr_left
  intro c _
  exact lowB_idem c
theorem lowS_idem (S : Nat → ByteArray) : lowS (lowS S) = lowS S := by
  funext i
  exact lowA_idem (S i)

/-- Another case of the same letter folds to the same. -/
theorem toggle_low {c : UInt8} (h : isLet c = true) : lowB (UInt8.ofNat (c.toNat ^^^ 32)) = lowB c := by
  have key : ∀ x : Fin 256, isLet (UInt8.ofNat x.val) = true → lowB (UInt8.ofNat ((UInt8.ofNat x.val).toNat ^^^ 32)) = lowB (UInt8.ofNat x.val) := by decide +kernel
  have := key ⟨c.toNat, UInt8.toNat_lt c⟩
  simp only [UInt8.ofNat_toNat] at this
  exact this h
theorem toggle_lt {c : UInt8} : c.toNat ^^^ 32 < 256 := Nat.xor_lt_two_pow (n := 8) (UInt8.toNat_lt c) (by decide)
theorem toggle_bits (c : UInt8) : bits .xor .u8 (c.toNat : Int) 32 = ((UInt8.ofNat (c.toNat ^^^ 32)).toNat : Int) := by
  have := u8_xor_nat c.toNat 32 (UInt8.toNat_lt c) (by decide)
  rw [show ((32 : Nat) : Int) = 32 from rfl] at this
  rw [this, UInt8.toNat_ofNat', Nat.mod_eq_of_lt toggle_lt]

/-- The row of bytes under the toggling. -/
def Tog (w : World) (B : Nat) (s : ByteArray) (g : Nat → UInt8) : Prop :=
  RowAt w B s.size (fun x => .int .u8 ((g x).toNat : Int)) ∧ ∀ x, x < s.size → lowB (g x) = lowB (s.data.toList.getD x 0)

theorem tog_step {w : World} {B : Nat} {s : ByteArray} {g : Nat → UInt8} (h : Tog w B s g) {j : Nat} (hj : j < s.size) (hl : isLet (g j) = true) {x : Int} (hx : x = bits .xor .u8 ((g j).toNat : Int) 32) :
    ∃ g', Tog (w.setCell ⟨B, j, none⟩ (.int .u8 x)) B s g' := by
  subst hx
  refine ⟨fun i => if i = j then UInt8.ofNat ((g j).toNat ^^^ 32) else g i, (h.1.set hj _).congr fun i hi => ?_, fun i hi => ?_⟩
  · by_cases e : i = j
    · simp only [if_pos e]; rw [toggle_bits]
    · simp only [if_neg e]
  · by_cases e : i = j
    · subst e
      simp only [if_true]
      rw [toggle_low hl]
      exact h.2 i hi
    · simp only [if_neg e]
      exact h.2 i hi

/-- The toggled string. -/
def togStr (s : ByteArray) (g : Nat → UInt8) : ByteArray := ⟨((List.range s.size).map g).toArray⟩

theorem conv_tog {w : World} {B cap : Nat} {s : ByteArray} {g : Nat → UInt8} (h : Tog w B s g) :
    (convert 36 9 (.slice (some ⟨B, 0, none⟩) s.size cap)).run Try.prog w = .ok (.string (togStr s g)) w := by
  have := run_convert_bytes_arg (P := Try.prog) w 36 5 Try.underlying36 Try.underlying5 B 0 s.size cap (nums ((List.range s.size).map g)) (by simp [nums_length]) (fun i hi => by
    rw [Nat.zero_add, (h.1 i hi).1]
    simp [hi, nums, List.getD]) 9 Try.underlying9
  rw [this, strOfNums_nums]
  rfl

theorem togStr_low {w : World} {B : Nat} {s : ByteArray} {g : Nat → UInt8} (h : Tog w B s g) : lowA (togStr s g) = lowA s := by
  apply ByteArray.ext
  apply Array.ext'
  have e1 : (lowA (togStr s g)).data.toList = ((List.range s.size).map g).map lowB := by simp [lowA, togStr]
  have e2 : (lowA s).data.toList = s.data.toList.map lowB := by simp [lowA]
  rw [e1, e2]
  apply List.ext_getElem
  · simp
  · intro i h1 h2
    have hi : i < s.size := by simpa using h1
    have := h.2 i hi
    simp only [List.getElem_map, List.getElem_range, this]
    simp [List.getD, hi]

theorem tog_start (w : World) (s : ByteArray) (cap m : Nat) (hm : s.size ≤ m) : Tog (w.alloc (.cells (bytesRow s cap) 5 (m, m + 1))).drew w.heap.size s (fun i => s.data.toList.getD i 0) :=
  ⟨fun i hi => rowAt_bytes w s cap m hm i hi, fun _ _ => rfl⟩

/-- A toggled label stored. -/
theorem toggled_step {w : World} {B n i : Nat} {S T : Nat → ByteArray} {F : Nat → Value} {t : ByteArray} (hr : w.rowIs B 9 n F) (hF : ∀ x, x < i → F x = .string (T x)) (hA : Alike i S T) (ht : lowA t = lowA (S i)) :
    ∃ F' T', (w.setCell ⟨B, i, none⟩ (.string t)).rowIs B 9 n F' ∧ (∀ x, x < i + 1 → F' x = .string (T' x)) ∧ Alike (i + 1) S T' := by
  refine ⟨_, fun x => if x = i then t else T x, hr.set i _, fun x hx => ?_, fun x hx => ?_⟩
  · by_cases e : x = i
    · simp [e]
    · simp only [if_neg e]; exact hF x (by omega)
  · by_cases e : x = i
    · subst e; simp only [if_true]; exact ht
    · simp only [if_neg e]; exact hA x (by omega)

theorem lower14t (n : Nat) {S T : Nat → ByteArray} (hA : Alike n S T) (hG : Good n S) (w : World) : Calls Try.prog 14 #[.agg #[.string (wireOf n T)]] w fun e w' => RetName w (wireOf n (lowS S)) e w' := by
  have := lower14w n T (hA.good hG) w
  rw [hA.low] at this
  exact this
theorem lower14l (n : Nat) (S : Nat → ByteArray) (hG : Good n S) (w : World) : Calls Try.prog 14 #[.agg #[.string (wireOf n (lowS S))]] w fun e w' => RetName w (wireOf n (lowS S)) e w' := by
  have := lower14w n (lowS S) (good_low hG) w
  rw [lowS_idem] at this
  exact this

theorem low_wire' {n : Nat} {S : Nat → ByteArray} (hG : Good n S) : lowA (wireOf n S) = wireOf n (lowS S) := low_wire (fun i hi => (hG.2.1 i hi).2)
theorem low_wire_low {n : Nat} {S : Nat → ByteArray} (hG : Good n S) : lowA (wireOf n (lowS S)) = wireOf n (lowS S) := by
  have := low_wire' (S := lowS S) (good_low hG)
  rw [lowS_idem] at this
  exact this

/-- The folded byte at a place. -/
theorem low_at (s : ByteArray) (j : Nat) (h : j < s.size) (h' : j < (lowA s).size) : (lowA s)[j] = lowB s[j] := by
  have e : (lowA s).data[j]? = some (lowB s[j]) := by
    show (s.data.map lowB)[j]? = _
    rw [Array.getElem?_map, Array.getElem?_eq_getElem h]
    rfl
  have e2 : (lowA s).data[j]? = some (lowA s)[j] := Array.getElem?_eq_getElem h'
  rw [e2] at e
  exact Option.some.inj e

theorem up_low (c : UInt8) : isUp (lowB c) = false := by
  have hc := UInt8.toNat_lt c
  by_cases h : 65 ≤ c.toNat ∧ c.toNat ≤ 90
  · have := lowB_yes h
    simp only [isUp, decide_eq_false_iff_not]
    omega
  · rw [lowB_no h]
    simp [isUp]
    omega

end Go.Proofs.Qxb6003358a
