/-
  Plain laws, with no program in sight: the wire form of a list of labels.
-/
import Derived.Laws.BytesArg
namespace Go.Proofs.Qxb6003358a

/-- The wire form of the first k labels, byte by byte. -/
def wl (S : Nat → ByteArray) : Nat → List UInt8
  | 0 => []
  | k + 1 => wl S k ++ (UInt8.ofNat (S k).size :: (S k).data.toList)

/-- Its length. -/
def wlen (S : Nat → ByteArray) : Nat → Nat
  | 0 => 0
  | k + 1 => wlen S k + 1 + (S k).size

theorem wl_length (S : Nat → ByteArray) (k : Nat) : (wl S k).length = wlen S k := by
  induction k with
  | zero => rfl
  | succ k ih => simp [wl, wlen, ih]; omega

theorem wlen_mono (S : Nat → ByteArray) {a b : Nat} (h : a ≤ b) : wlen S a ≤ wlen S b := by
  induction b with
  | zero => have : a = 0 := by omega
            subst this; exact Nat.le_refl _
  | succ b ih =>
    by_cases e : a = b + 1
    · subst e; exact Nat.le_refl _
    · have := ih (by omega)
      simp only [wlen]; omega

theorem wlen_le (S : Nat → ByteArray) (k : Nat) : k ≤ wlen S k := by
  induction k with
  | zero => exact Nat.le_refl _
  | succ k ih => simp only [wlen]; omega

theorem wlen_step (S : Nat → ByteArray) {k n : Nat} (h : k < n) : wlen S k + 1 + (S k).size ≤ wlen S n := wlen_mono S (show k + 1 ≤ n from h)

/-- Within the limits of a name: at most 127 labels of 1 to 63 bytes, 255 bytes with the root label. -/
def Good (n : Nat) (S : Nat → ByteArray) : Prop := n ≤ 127 ∧ (∀ i, i < n → 1 ≤ (S i).size ∧ (S i).size ≤ 63) ∧ wlen S n + 1 ≤ 255

/-- The wire form as a string. -/
def wireOf (n : Nat) (S : Nat → ByteArray) : ByteArray := ⟨(wl S n).toArray⟩

/-- Bytes as numbers. -/
def nums (l : List UInt8) : List Int := l.map fun c => (c.toNat : Int)
theorem nums_append (a b : List UInt8) : nums (a ++ b) = nums a ++ nums b := by simp [nums]
theorem nums_length (a : List UInt8) : (nums a).length = a.length := by simp [nums]

theorem strOfNums_nums (l : List UInt8) : strOfNums (nums l) = ⟨l.toArray⟩ := by
  simp [strOfNums, nums, Function.comp_def]

theorem take_snoc (s : ByteArray) (k : Nat) (h : k < s.size) : s.data.toList.take (k + 1) = s.data.toList.take k ++ [s[k]] := by
  rw [List.take_succ_eq_append_getElem (by simpa using h)]; rfl

theorem take_full (s : ByteArray) : s.data.toList.take s.size = s.data.toList := List.take_of_length_le (by simp)

theorem extract_toList (s : ByteArray) (a b : Nat) : (s.extract a b).data.toList = (s.data.toList.drop a).take (b - a) := by
  simp [ByteArray.data_extract]

/-- The wire form is what stands ahead of a label, the label's length, the label, the rest. -/
theorem wl_split (S : Nat → ByteArray) {k n : Nat} (h : k < n) : ∃ r, wl S n = wl S k ++ (UInt8.ofNat (S k).size :: ((S k).data.toList ++ r)) := by
  induction n with
  | zero => omega
  | succ n ih =>
    by_cases e : k = n
    · subst e
      exact ⟨[], by simp [wl]⟩
    · obtain ⟨r, hr⟩ := ih (by omega)
      exact ⟨r ++ (UInt8.ofNat (S n).size :: (S n).data.toList), by simp [wl, hr]⟩

theorem wire_at {n k : Nat} {S : Nat → ByteArray} (hG : Good n S) (hk : k < n) {s : ByteArray} (hs : s = wireOf n S) {p : Nat} (hp : p = wlen S k) (hps : p < s.size) :
    s[p].toNat = (S k).size ∧ s.extract (p + 1) (p + 1 + (S k).size) = S k := by
  obtain ⟨r, hr⟩ := wl_split S hk
  have hl := wl_length S k
  have hsz := hG.2.1 k hk
  subst hs hp
  constructor
  · have : (wireOf n S)[wlen S k] = UInt8.ofNat (S k).size := by
      show (wl S n).toArray[wlen S k]'_ = _
      simp only [List.getElem_toArray, hr]
      rw [List.getElem_append_right (by omega)]
      simp [hl]
    rw [this]
    simp
    omega
  · apply ByteArray.ext
    apply Array.ext'
    rw [extract_toList]
    show List.take _ (List.drop _ (wl S n)) = _
    rw [hr, show wlen S k + 1 = (wl S k).length + 1 from by omega, List.drop_append]
    rw [show List.drop ((wl S k).length + 1) (wl S k) = [] from List.drop_of_length_le (by omega)]
    have e2 : (wlen S k + 1 + (S k).size - ((wl S k).length + 1)) = (S k).data.toList.length := by simp; omega
    simp only [show (wl S k).length + 1 - (wl S k).length = 1 from by omega, List.drop_succ_cons, List.drop_zero, List.nil_append]
    first | rw [e2, List.take_left] | (rw [show (wl S k).length + 1 + (S k).size - ((wl S k).length + 1) = (S k).data.toList.length from by simp, List.take_left])


/-- All labels but the first. -/
def sh (S : Nat → ByteArray) : Nat → ByteArray := fun i => S (i + 1)

theorem wl_cons (S : Nat → ByteArray) (m : Nat) : wl S (m + 1) = (UInt8.ofNat (S 0).size :: (S 0).data.toList) ++ wl (sh S) m := by
  induction m with
  | zero => simp [wl]
  | succ m ih =>
    rw [wl, ih]
    show _ = _ ++ (wl (sh S) m ++ _)
    rw [← List.append_assoc]
    rfl

theorem wlen_cons (S : Nat → ByteArray) (m : Nat) : wlen S (m + 1) = 1 + (S 0).size + wlen (sh S) m := by
  rw [← wl_length, wl_cons, List.length_append, wl_length]
  simp
  omega

theorem wireOf_size (n : Nat) (S : Nat → ByteArray) : (wireOf n S).size = wlen S n := by
  rw [← wl_length]
  rfl

theorem good_sh {m : Nat} {S : Nat → ByteArray} (h : Good (m + 1) S) : Good m (sh S) := by
  have := wlen_cons S m
  exact ⟨by have := h.1; omega, fun i hi => h.2.1 (i + 1) (by omega), by have := h.2.2; omega⟩

theorem parent_plain {m : Nat} {S : Nat → ByteArray} (h : Good (m + 1) S) (h0 : 0 < (wireOf (m + 1) S).size) :
    (wireOf (m + 1) S)[0].toNat = (S 0).size ∧ (wireOf (m + 1) S).extract (1 + (S 0).size) (wireOf (m + 1) S).size = wireOf m (sh S) := by
  have hs := h.2.1 0 (by omega)
  constructor
  · have : (wireOf (m + 1) S)[0] = UInt8.ofNat (S 0).size := by
      show (wl S (m + 1)).toArray[0]'_ = _
      simp [wl_cons]
    rw [this]
    simp
    omega
  · apply ByteArray.ext
    apply Array.ext'
    rw [extract_toList, wireOf_size, wlen_cons]
    show List.take _ (List.drop _ (wl S (m + 1))) = wl (sh S) m
    have hl : (UInt8.ofNat (S 0).size :: (S 0).data.toList).length = 1 + (S 0).size := by simp; omega
    rw [wl_cons, ← hl, List.drop_left, hl]
    apply List.take_of_length_le
    rw [wl_length]
    omega

/-- An ASCII capital's small letter; every other byte as it is. -/
def lowB (c : UInt8) : UInt8 := if 65 ≤ c.toNat ∧ c.toNat ≤ 90 then UInt8.ofNat (c.toNat + 32) else c
/-- A string with its ASCII capitals folded. -/
def lowA (s : ByteArray) : ByteArray := ⟨s.data.map lowB⟩

theorem lowB_yes {c : UInt8} (h : 65 ≤ c.toNat ∧ c.toNat ≤ 90) : ((lowB c).toNat : Int) = c.toNat + 32 := by
  unfold lowB
  rw [if_pos h]
  simp
  omega
theorem lowB_no {c : UInt8} (h : ¬ (65 ≤ c.toNat ∧ c.toNat ≤ 90)) : lowB c = c := by
  unfold lowB
  rw [if_neg h]

theorem lowA_size (s : ByteArray) : (lowA s).size = s.size := Array.size_map ..

/-- Folding a name is folding its labels: no length byte is a letter. -/
theorem low_wire {n : Nat} {S : Nat → ByteArray} (h : ∀ i, i < n → (S i).size ≤ 63) : lowA (wireOf n S) = wireOf n (fun i => lowA (S i)) := by
  have : ∀ k, k ≤ n → (wl S k).map lowB = wl (fun i => lowA (S i)) k := by
    intro k
    induction k with
    | zero => intro _; rfl
    | succ k ih =>
      intro hk
      have hs := h k (by omega)
      have hb : lowB (UInt8.ofNat (S k).size) = UInt8.ofNat (S k).size := lowB_no (by simp; omega)
      simp only [wl, List.map_append, List.map_cons, ih (by omega), hb, lowA_size]
      simp [lowA]
  simp only [lowA, wireOf]
  congr 1
  rw [List.map_toArray, this n (Nat.le_refl _)]
  rfl

theorem wlen_low (S : Nat → ByteArray) (n : Nat) : wlen (fun i => lowA (S i)) n = wlen S n := by
  induction n with
  | zero => rfl
  | succ n ih => simp only [wlen, ih, lowA_size]

theorem good_low {n : Nat} {S : Nat → ByteArray} (h : Good n S) : Good n (fun i => lowA (S i)) :=
  ⟨h.1, fun i hi => by rw [lowA_size]; exact h.2.1 i hi, by rw [wlen_low]; exact h.2.2⟩

/-- All labels folded. -/
def lowS (S : Nat → ByteArray) : Nat → ByteArray := fun i => lowA (S i)
/-- All labels but the first k. -/
def shk (S : Nat → ByteArray) (k : Nat) : Nat → ByteArray := fun i => S (i + k)
theorem sh_shk (S : Nat → ByteArray) (k : Nat) : sh (shk S k) = shk S (k + 1) := by
  funext i
  show S (i + 1 + k) = S (i + (k + 1))
  rw [show i + 1 + k = i + (k + 1) by omega]
theorem good_shk {n k : Nat} {S : Nat → ByteArray} (hk : k < n) (h : Good (n - k) (shk S k)) : Good (n - (k + 1)) (shk S (k + 1)) := by
  rw [← sh_shk]
  exact good_sh (by rw [show n - (k + 1) + 1 = n - k by omega]; exact h)

end Go.Proofs.Qxb6003358a
