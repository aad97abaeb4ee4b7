/-
  The callees of 'FnCompareMagnitudeMatchesIntegers': zzPow10, zzTrimTrailingZeros, zzUtoa.
-/
import Derived.Test.Qxb6003369aKmpWalks
import Derived.Test.Qxb6003369aMag
namespace Go.Proofs.Qxb6003369a
open Go.RowKit

set_option maxHeartbeats 400000 in
theorem pow10 (n : Nat) (hn : n ≤ 9) (w : World) : Calls Try.prog 10 #[.int .i64 n] w fun e w' => e = .returned (.int .u64 ((10 ^ n : Nat) : Int)) ∧ w' = w := by
  go_enter Try.func10, Try.ntmps10
  go_wp2
  go_loopg [3, 4] n (fun gk p i wr => ∃ (k : Nat) (z : Int), k + gk = n ∧ i = .int .i64 k ∧ p = .int .u64 z ∧ Hid (z = ((10 ^ k : Nat) : Int)) ∧ 0 ≤ z ∧ z ≤ 1000000000 ∧ w = wr)
  case atStart => exact ⟨0, 1, by omega, rfl, rfl, rfl, by omega, by omega, rfl⟩
  case round =>
    obtain ⟨k, z, hk, rfl, rfl, HZ, hz0, hz1, rfl⟩ := hrel
    have HK : Hid (k + gk = n) := hk
    clear hk
    by_cases hlt : k < n
    · have hp : 10 ^ (k + 1) ≤ 10 ^ 9 := Nat.pow_le_pow_right (by omega) (by omega)
      have HP : Hid (10 ^ (k + 1) ≤ 10 ^ 9) := hp
      clear hp
      go_wp2
      go_roundg (gk - 1)
      case measure => have := HK.out; omega
      case rel =>
        have e1 := HZ.out
        have e2 := HP.out
        have e3 : 10 ^ (k + 1) = 10 ^ k * 10 := Nat.pow_succ ..
        refine ⟨k + 1, z * 10, by have := HK.out; omega, by go_num, rfl, ?_, by omega, by omega, rfl⟩
        unfold Hid
        rw [e3, e1]
        omega
    · have hkn : k = n := by have := HK.out; omega
      rw [hkn] at HZ
      clear hkn
      go_wp2
      go_ret
      exact ⟨congrArg (fun x => Ending.returned (.int .u64 x)) HZ.out, rfl⟩

/-- What is left of a numeral when the zeros at its end are gone. -/
def TrimTo (s : ByteArray) (m : Nat) : Prop := m ≤ s.size ∧ (∀ k (hk : k < s.size), m ≤ k → s[k].toNat = 48) ∧ (∀ (h0 : 0 < m) (hm : m - 1 < s.size), s[m - 1].toNat ≠ 48)
def RetTrim (s : ByteArray) (e : Ending) : Prop := ∃ m, e = .returned (.string (s.extract 0 m)) ∧ TrimTo s m
theorem retTrim {s : ByteArray} {m : Nat} (h : TrimTo s m) : RetTrim s (.returned (.string (s.extract 0 m))) := ⟨m, rfl, h⟩

set_option maxHeartbeats 400000 in
theorem trim9 (s : ByteArray) (hs : s.size ≤ 100) (w : World) : Calls Try.prog 9 #[.string s] w fun e w' => RetTrim s e ∧ w' = w := by
  go_enter Try.func9, Try.ntmps9
  go_wp2
  go_loopg [3] s.size (fun gk sn wr => ∃ n : Nat, Hid (n = gk) ∧ sn = .int .i64 n ∧ n ≤ s.size ∧ Hid (∀ k (hk : k < s.size), n ≤ k → s[k].toNat = 48) ∧ w = wr)
  case atStart => exact ⟨s.size, rfl, rfl, Nat.le_refl _, fun k hk h => by omega, rfl⟩
  case round =>
    obtain ⟨n, HN, rfl, hns, HZ, rfl⟩ := hrel
    by_cases h0 : 0 < n
    · have hn1 : n - 1 < s.size := by omega
      have q1 : (0 : Int) < n := by omega
      by_cases hz : s[n - 1].toNat = 48
      · have hb : ((s[n - 1].toNat : Int) == 48) = true := by simp [hz]
        have HZ2 : Hid (s[n - 1].toNat = 48) := hz
        clear hz
        go_wp2
        go_roundg (gk - 1)
        case measure => have := HN.out; omega
        case rel =>
          refine ⟨n - 1, by have := HN.out; unfold Hid; omega, by go_num, by omega, fun k hk h => ?_, rfl⟩
          by_cases e : k = n - 1
          · subst e; exact HZ2.out
          · exact HZ.out k hk (by omega)
      · have hb : ((s[n - 1].toNat : Int) == 48) = false := beq_eq_false_iff_ne.2 (by omega)
        have HT : Hid (TrimTo s n) := ⟨hns, HZ.out, fun _ _ => hz⟩
        clear hz
        go_wp2
        go_ret
        exact ⟨retTrim HT.out, rfl⟩
    · have q1 : decide ((0 : Int) < (n : Int)) = false := decide_eq_false (by omega)
      have q2 : decide (0 < n) = false := decide_eq_false (by omega)
      have HT : Hid (TrimTo s n) := ⟨hns, HZ.out, fun h => absurd h h0⟩
      go_wp2
      go_ret
      exact ⟨retTrim HT.out, rfl⟩

/-- The row under construction: the last digits stand at its end. -/
def Tail (w : World) (B i : Nat) (l : List UInt8) : Prop :=
  i + l.length = 20 ∧ (∀ x, x < 20 → ∃ n : Int, w.cell? ⟨B, x, none⟩ = some (.int .u8 n)) ∧ (∀ x, x < 20 → w.frozen? ⟨B, x, none⟩ = false) ∧ ∀ x, x < l.length → w.cell? ⟨B, i + x, none⟩ = some (.int .u8 ((l.getD x 0).toNat : Int))

theorem tail_step {w : World} {B i : Nat} {l : List UInt8} (h : Tail w B (i + 1) l) (d : UInt8) {x : Int} (hx : x = d.toNat) : Tail (w.setCell ⟨B, i, none⟩ (.int .u8 x)) B i (d :: l) := by
  subst hx
  obtain ⟨h1, h2, h3, h4⟩ := h
  have ne : ∀ y, y ≠ i → (w.setCell ⟨B, i, none⟩ (.int .u8 (d.toNat : Int))).cell? ⟨B, y, none⟩ = w.cell? ⟨B, y, none⟩ := fun y hy => World.cell?_setCell_other w _ _ _ (fun e => by injection e with _ e2 _; omega)
  obtain ⟨n0, hn0⟩ := h2 i (by omega)
  have he := World.cell?_setCell_same w ⟨B, i, none⟩ (.int .u8 (d.toNat : Int)) hn0
  refine ⟨by simp; omega, fun y hy => ?_, fun y hy => by rw [World.frozen?_setCell]; exact h3 y hy, fun y hy => ?_⟩
  · by_cases e : y = i
    · subst e; exact ⟨_, he⟩
    · rw [ne y e]; exact h2 y hy
  · cases y with
    | zero => simpa using he
    | succ y =>
      rw [ne _ (by omega), show i + (y + 1) = i + 1 + y by omega, h4 y (by simpa using hy)]
      simp

theorem tail_start (w : World) : Tail (w.alloc (.cells (Array.replicate 20 (.int .u8 0)) 43)) w.heap.size 20 [] := by
  have hh : (w.alloc (.cells (Array.replicate 20 (.int .u8 0)) 43)).heap[w.heap.size]? = some (.cells (Array.replicate 20 (.int .u8 0)) 43 (0, 0)) := heap_alloc_new w _
  refine ⟨rfl, fun x hx => ⟨0, ?_⟩, fun x hx => ?_, fun x hx => by simp at hx⟩
  · simp only [World.cell?]
    rw [hh]
    simp [hx]
  · simp only [World.frozen?]
    rw [hh]
    simp

theorem conv_tail {w : World} {B i : Nat} {l : List UInt8} (h : Tail w B i l) (cap : Nat) :
    (convert 39 9 (.slice (some ⟨B, i, none⟩) (20 - i) cap)).run Try.prog w = .ok (.string ⟨l.toArray⟩) w := by
  have hl : 20 - i = l.length := by have := h.1; omega
  have := run_convert_bytes_arg (P := Try.prog) w 39 5 Try.underlying39 Try.underlying5 B i (20 - i) cap (l.map fun c => (c.toNat : Int)) (by simp [hl]) (fun x hx => by
    rw [h.2.2.2 x (by omega)]
    have hx' : x < l.length := by omega
    simp [List.getD, hx']) 9 Try.underlying9
  rw [this]
  congr 2
  simp [strOfNums, Function.comp_def]

theorem under43 : Try.prog.underlying 43 = some (.array (Try.prog.arrayLen 43) (Try.prog.elem 43)) := by kernel_rfl
theorem len43 : Try.prog.arrayLen 43 = 20 := by kernel_rfl
theorem size43 (w : World) : (sizeOf (Try.prog.elem 43)).run Try.prog w = .ok 1 w := by kernel_rfl
theorem slice43 (B i : Nat) (hi : i < 20) (w : World) : (Instr.sliceAt 43 (.pointer (some ⟨B, 0, none⟩)) (some (.int .i64 (i : Int))) none none).run Try.prog w = .ok (.slice (some ⟨B, i, none⟩) (20 - i) (20 - i)) w := by
  rw [run_sliceAt_array_l (P := Try.prog) w 43 ⟨B, 0, none⟩ under43 .i64 (i : Int) (by omega) (by rw [len43]; omega), size43]
  simp only [Result.andThen_ok, slicedAt, len43, Int.toNat_natCast, Nat.mul_one]
  rw [if_neg (by omega)]
  simp [Addr.add_lit]

/-- What 'zzUtoa' leaves: the numeral. -/
def RetUtoa (w : World) (v : Nat) (e : Ending) (w' : World) : Prop :=
  ∃ D : List UInt8, e = .returned (.string ⟨D.toArray⟩) ∧ (Dig D ∧ (∃ d l, D = d :: l ∧ 49 ≤ d.toNat) ∧ val D = v) ∧ Below w.heap.size w w'
theorem retUtoa {w w' : World} {v : Nat} {D : List UInt8} (h : Dig D ∧ (∃ d l, D = d :: l ∧ 49 ≤ d.toNat) ∧ val D = v) (hb : Below w.heap.size w w') : RetUtoa w v (.returned (.string ⟨D.toArray⟩)) w' := ⟨D, rfl, h, hb⟩

/-- The digits written so far, and what is left to write. -/
def UInv (v u : Nat) (l : List UInt8) : Prop := v = u * 10 ^ l.length + val l ∧ Dig l ∧ (u = 0 → ∃ d r, l = d :: r ∧ 49 ≤ d.toNat)

theorem uinv_len {v u : Nat} {l : List UInt8} (h : UInv v u l) (hu : 0 < u) (hv : v < 4294967296) : l.length < 10 := by
  apply Nat.lt_of_not_le
  intro hl
  have h1 : 10 ^ 10 ≤ 10 ^ l.length := Nat.pow_le_pow_right (by omega) hl
  have h2 : 1 * 10 ^ l.length ≤ u * 10 ^ l.length := Nat.mul_le_mul_right _ hu
  have h3 := h.1
  omega

theorem uinv_step {v u : Nat} {l : List UInt8} (h : UInv v u l) (hu : 0 < u) : UInv v (u / 10) (UInt8.ofNat (48 + u % 10) :: l) := by
  obtain ⟨h1, h2, _⟩ := h
  have hd : (UInt8.ofNat (48 + u % 10)).toNat = 48 + u % 10 := by simp; omega
  refine ⟨?_, fun x hx => ?_, fun hz => ⟨_, _, rfl, by rw [hd]; omega⟩⟩
  · rw [val_cons, hd, show 48 + u % 10 - 48 = u % 10 by omega, List.length_cons, Nat.pow_succ, ← Nat.add_assoc, Nat.mul_comm (10 ^ l.length) 10, ← Nat.mul_assoc, ← Nat.add_mul, Nat.mul_comm (u / 10) 10, Nat.div_add_mod]
    exact h1
  · rcases List.mem_cons.1 hx with rfl | hx
    · rw [hd]; omega
    · exact h2 x hx

set_option maxRecDepth 100000 in
set_option maxHeartbeats 1000000 in
theorem utoa8 (v : Nat) (h0 : 0 < v) (hv : v < 4294967296) (w : World) :
    Calls Try.prog 8 #[.int .u64 v] w fun e w' => RetUtoa w v e w' := by
  have hz : ((v : Int) == 0) = false := beq_eq_false_iff_ne.2 (by omega)
  go_enter Try.func8, Try.ntmps8
  go_wp2
  go_loopg [0, 4] v (fun gk su si wr => ∃ (u i : Nat) (l : List UInt8), Hid (u = gk) ∧ su = .int .u64 u ∧ si = .int .i64 i ∧ u ≤ v ∧ Tail wr w.heap.size i l ∧ Hid (UInv v u l) ∧ Below w.heap.size w wr)
  case atStart => exact ⟨v, 20, [], rfl, rfl, rfl, Nat.le_refl _, tail_start w, ⟨by simp [val], fun x hx => by simp at hx, fun h => by omega⟩, (Below.refl _ _).alloc (Nat.le_refl _) _⟩
  case round =>
    obtain ⟨u, i, l, HU, rfl, rfl, huv, ht, HV, hnx⟩ := hrel
    by_cases hu : 0 < u
    · have hl := uinv_len HV.out hu hv
      have h20 := ht.1
      obtain ⟨i, rfl⟩ : ∃ j, i = j + 1 := ⟨i - 1, by omega⟩
      obtain ⟨n0, hn0⟩ := ht.2.1 i (by omega)
      have hf0 := ht.2.2.1 i (by omega)
      have HT : Hid (Tail wr w.heap.size (i + 1) l) := ht
      have q1 : (0 : Int) < u := by omega
      have hi20 : i < 20 := by omega
      clear ht h20
      go_wp2
      go_roundg (u / 10)
      case measure => have := HU.out; omega
      case rel => exact ⟨u / 10, i, _, rfl, by go_num, rfl, by omega, tail_step HT.out (UInt8.ofNat (48 + u % 10)) (by simp; omega), uinv_step HV.out hu, hnx.setCell (Nat.le_refl _) _⟩
    · have hu0 : u = 0 := by omega
      have HD : Hid (Dig l ∧ (∃ d r, l = d :: r ∧ 49 ≤ d.toNat) ∧ val l = v) := ⟨HV.out.2.1, HV.out.2.2 hu0, by rw [HV.out.1, hu0]; simp⟩
      have h20 := ht.1
      have hlp : 0 < l.length := by
        obtain ⟨d, r, e, _⟩ := HD.out.2.1
        rw [e]
        simp
      have hcv := fun cap => conv_tail ht cap
      have hi19 : i < 20 := by omega
      have hsl := slice43 w.heap.size i hi19
      clear ht h20 hu0 hlp
      go_wp2
      go_ret
      exact retUtoa HD.out hnx

end Go.Proofs.Qxb6003369a
