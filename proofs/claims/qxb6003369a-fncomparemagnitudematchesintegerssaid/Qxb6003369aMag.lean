/-
  Plain facts on decimal numerals, with no program in sight: how the digits of two numbers compare.
-/
import Derived.Below
namespace Go.Proofs.Qxb6003369a

/-- The number that digits say. -/
def val (l : List UInt8) : Nat := l.foldl (fun a c => a * 10 + (c.toNat - 48)) 0
/-- Decimal digits, all of them. -/
def Dig (l : List UInt8) : Prop := ∀ x ∈ l, 48 ≤ x.toNat ∧ x.toNat ≤ 57
/-- The last digit, if any, is no zero. -/
def NZ : List UInt8 → Prop
  | [] => True
  | d :: x => (x = [] → d.toNat ≠ 48) ∧ NZ x
/-- The order of two digit strings as text. -/
def lexc : List UInt8 → List UInt8 → Int
  | [], [] => 0
  | [], _ :: _ => -1
  | _ :: _, [] => 1
  | a :: x, b :: y => if a.toNat < b.toNat then -1 else if b.toNat < a.toNat then 1 else lexc x y
/-- The order of two numbers. -/
def cmpN (x y : Nat) : Int := if x < y then -1 else if y < x then 1 else 0

theorem cmpN_swap (x y : Nat) : cmpN y x = - cmpN x y := by
  unfold cmpN
  by_cases h1 : x < y
  · rw [if_neg (by omega), if_pos h1, if_pos h1]; rfl
  · by_cases h2 : y < x
    · rw [if_pos h2, if_neg h1, if_pos h2]
    · rw [if_neg h2, if_neg h1, if_neg h1, if_neg h2]; rfl

theorem foldl_val (l : List UInt8) (z : Nat) : l.foldl (fun a c => a * 10 + (c.toNat - 48)) z = z * 10 ^ l.length + val l := by
  induction l generalizing z with
  | nil => simp [val]
  | cons d l ih =>
    simp only [List.foldl_cons, val, List.length_cons]
    rw [ih, ih (0 * 10 + (d.toNat - 48)), Nat.pow_succ]
    rw [Nat.add_mul, Nat.zero_mul, Nat.zero_add, Nat.mul_assoc, Nat.mul_comm 10, Nat.add_assoc]
theorem val_cons (d : UInt8) (l : List UInt8) : val (d :: l) = (d.toNat - 48) * 10 ^ l.length + val l := by
  show l.foldl _ (0 * 10 + (d.toNat - 48)) = _
  rw [foldl_val, Nat.zero_mul, Nat.zero_add]
theorem val_append (x y : List UInt8) : val (x ++ y) = val x * 10 ^ y.length + val y := by
  show (x ++ y).foldl _ 0 = _
  rw [List.foldl_append, foldl_val]
  rfl
theorem val_zeros (k : Nat) : val (List.replicate k 48) = 0 := by
  induction k with
  | zero => rfl
  | succ k ih => rw [List.replicate_succ, val_cons, ih]; simp
theorem Dig.tail {d : UInt8} {l : List UInt8} (h : Dig (d :: l)) : Dig l := fun x hx => h x (List.mem_cons_of_mem _ hx)
theorem Dig.head {d : UInt8} {l : List UInt8} (h : Dig (d :: l)) : 48 ≤ d.toNat ∧ d.toNat ≤ 57 := h d (List.mem_cons_self ..)
theorem val_lt {l : List UInt8} (h : Dig l) : val l < 10 ^ l.length := by
  induction l with
  | nil => simp [val]
  | cons d l ih =>
    have h1 := ih h.tail
    have h2 := h.head
    rw [val_cons, List.length_cons, Nat.pow_succ]
    have h3 : (d.toNat - 48) * 10 ^ l.length ≤ 9 * 10 ^ l.length := Nat.mul_le_mul_right _ (by omega)
    omega
theorem val_ge {d : UInt8} {l : List UInt8} (h : 49 ≤ d.toNat) : 10 ^ l.length ≤ val (d :: l) := by
  rw [val_cons]
  have : 1 * 10 ^ l.length ≤ (d.toNat - 48) * 10 ^ l.length := Nat.mul_le_mul_right _ (by omega)
  omega
theorem val_pos {l : List UInt8} (h : Dig l) (hn : NZ l) (hl : l ≠ []) : 0 < val l := by
  induction l with
  | nil => exact absurd rfl hl
  | cons d x ih =>
    rw [val_cons]
    by_cases e : x = []
    · subst e
      have := hn.1 rfl
      have := h.head
      simp
      omega
    · have := ih h.tail hn.2 e
      omega

/-- A digit string read as the leading digits of a number of L digits. -/
def vl (L : Nat) (l : List UInt8) : Nat := val l * 10 ^ (L - l.length)

theorem vl_cons (L : Nat) (d : UInt8) (l : List UInt8) (h : l.length ≤ L) : vl (L + 1) (d :: l) = (d.toNat - 48) * 10 ^ L + vl L l := by
  unfold vl
  rw [val_cons, List.length_cons, show L + 1 - (l.length + 1) = L - l.length by omega, Nat.add_mul, Nat.mul_assoc, ← Nat.pow_add, show l.length + (L - l.length) = L by omega]
theorem vl_lt (L : Nat) (l : List UInt8) (hd : Dig l) (h : l.length ≤ L) : vl L l < 10 ^ L := by
  unfold vl
  have h1 := val_lt hd
  have h2 : val l * 10 ^ (L - l.length) < 10 ^ l.length * 10 ^ (L - l.length) := Nat.mul_lt_mul_of_pos_right h1 (Nat.pow_pos (by omega))
  rwa [← Nat.pow_add, show l.length + (L - l.length) = L by omega] at h2

/-- AS TEXT, AS NUMBERS: digit strings without zeros at their ends compare as the numbers do. -/
theorem lex_vl : ∀ (x y : List UInt8) (L : Nat), Dig x → Dig y → NZ x → NZ y → x.length ≤ L → y.length ≤ L → lexc x y = cmpN (vl L x) (vl L y)
  | [], [], L, _, _, _, _, _, _ => by simp [lexc, cmpN]
  | [], b :: y, L, _, hy, _, ny, _, _ => by
    have := val_pos hy ny (by simp)
    have h2 : 0 < vl L (b :: y) := Nat.mul_pos this (Nat.pow_pos (by omega))
    have h1 : vl L [] = 0 := by simp [vl, val]
    simp only [lexc]
    rw [cmpN, if_pos (by omega)]
  | a :: x, [], L, hx, _, nx, _, _, _ => by
    have := val_pos hx nx (by simp)
    have h2 : 0 < vl L (a :: x) := Nat.mul_pos this (Nat.pow_pos (by omega))
    have h1 : vl L [] = 0 := by simp [vl, val]
    simp only [lexc]
    rw [cmpN, if_neg (by omega), if_pos (by omega)]
  | a :: x, b :: y, L, hx, hy, nx, ny, lx, ly => by
    obtain ⟨M, rfl⟩ : ∃ M, L = M + 1 := ⟨L - 1, by simp at lx; omega⟩
    simp only [List.length_cons] at lx ly
    have ih := lex_vl x y M hx.tail hy.tail nx.2 ny.2 (by omega) (by omega)
    have ex := vl_cons M a x (by omega)
    have ey := vl_cons M b y (by omega)
    have bx := vl_lt M x hx.tail (by omega)
    have by' := vl_lt M y hy.tail (by omega)
    have ha := hx.head
    have hb := hy.head
    simp only [lexc]
    by_cases h1 : a.toNat < b.toNat
    · rw [if_pos h1]
      have h3 : (a.toNat - 48 + 1) * 10 ^ M ≤ (b.toNat - 48) * 10 ^ M := Nat.mul_le_mul_right _ (by omega)
      rw [Nat.add_mul, Nat.one_mul] at h3
      rw [cmpN, if_pos (by omega)]
    · rw [if_neg h1]
      by_cases h2 : b.toNat < a.toNat
      · rw [if_pos h2]
        have h3 : (b.toNat - 48 + 1) * 10 ^ M ≤ (a.toNat - 48) * 10 ^ M := Nat.mul_le_mul_right _ (by omega)
        rw [Nat.add_mul, Nat.one_mul] at h3
        rw [cmpN, if_neg (by omega), if_pos (by omega)]
      · rw [if_neg h2, ih]
        have e : a.toNat = b.toNat := by omega
        rw [e] at ex
        unfold cmpN
        by_cases c1 : vl M x < vl M y
        · rw [if_pos c1, if_pos (by omega)]
        · by_cases c2 : vl M y < vl M x
          · rw [if_neg c1, if_pos c2, if_neg (by omega), if_pos (by omega)]
          · rw [if_neg c1, if_neg c2, if_neg (by omega), if_neg (by omega)]

/-- What the numeral of a positive number is, and its digits without the zeros at the end. -/
structure Num (a : Nat) (D t : List UInt8) : Prop where
  dig : Dig D
  hd : ∃ d l, D = d :: l ∧ 49 ≤ d.toNat
  val : val D = a
  nz : NZ t
  cut : ∃ k, D = t ++ List.replicate k 48

theorem Num.trim {a : Nat} {D t : List UInt8} (h : Num a D t) : Dig t ∧ t.length ≤ D.length ∧ ∀ e, vl (D.length + e) t = a * 10 ^ e := by
  obtain ⟨k, hk⟩ := h.cut
  have hl : D.length = t.length + k := by rw [hk]; simp
  refine ⟨fun x hx => h.dig x (by rw [hk]; exact List.mem_append_left _ hx), by omega, fun e => ?_⟩
  have hv := h.val
  rw [hk, val_append, val_zeros, List.length_replicate, Nat.add_zero] at hv
  unfold vl
  rw [← hv, Nat.mul_assoc, ← Nat.pow_add, hl, show t.length + k + e - t.length = k + e by omega]

/-- A number of more digits is greater. -/
theorem num_lt {a b : Nat} {D t E u : List UInt8} (ha : Num a D t) (hb : Num b E u) {e f : Nat} (h : D.length + e < E.length + f) : a * 10 ^ e < b * 10 ^ f := by
  have h1 := val_lt ha.dig
  obtain ⟨d, l, rfl, hd⟩ := hb.hd
  have h2 := val_ge (l := l) hd
  rw [ha.val] at h1
  rw [hb.val] at h2
  simp only [List.length_cons] at h
  calc a * 10 ^ e < 10 ^ D.length * 10 ^ e := Nat.mul_lt_mul_of_pos_right h1 (Nat.pow_pos (by omega))
    _ = 10 ^ (D.length + e) := (Nat.pow_add ..).symm
    _ ≤ 10 ^ (l.length + f) := Nat.pow_le_pow_right (by omega) (by omega)
    _ = 10 ^ l.length * 10 ^ f := Nat.pow_add ..
    _ ≤ b * 10 ^ f := Nat.mul_le_mul_right _ h2

/-- THE LAW: by the number of digits first, then by the digits as text. -/
theorem mag_law {a b : Nat} {D t E u : List UInt8} (ha : Num a D t) (hb : Num b E u) (e f : Nat) :
    (if D.length + e = E.length + f then lexc t u else cmpN (D.length + e) (E.length + f)) = cmpN (a * 10 ^ e) (b * 10 ^ f) := by
  by_cases h : D.length + e = E.length + f
  · rw [if_pos h]
    obtain ⟨t1, t2, t3⟩ := ha.trim
    obtain ⟨u1, u2, u3⟩ := hb.trim
    rw [lex_vl t u (D.length + e) t1 u1 ha.nz hb.nz (by omega) (by omega), t3 e, h, u3 f]
  · rw [if_neg h]
    unfold cmpN
    by_cases c : D.length + e < E.length + f
    · rw [if_pos c, if_pos (num_lt ha hb c)]
    · have c2 : E.length + f < D.length + e := by omega
      have := num_lt hb ha c2
      rw [if_neg c, if_pos c2, if_neg (by omega), if_pos this]

end Go.Proofs.Qxb6003369a
