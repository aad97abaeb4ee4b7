/-
  The walk of 'FnFloorMatchesCountedRecurrenceModel'.
-/
import Derived.Test.Qxb6603689aFloor
namespace Go.Proofs.Qxb6603689a
open Go.RowKit

/-- How often v stands among the first k bytes. -/
def cnt (S : Nat → Nat) : Nat → Nat → Nat
  | 0, _ => 0
  | k + 1, v => cnt S k v + if v = S k then 1 else 0
/-- The counted sum over the byte values below m. -/
def dot (t c : Nat → Nat) : Nat → Nat
  | 0 => 0
  | m + 1 => dot t c m + c m * t m

theorem cnt_le (S : Nat → Nat) (k v : Nat) : cnt S k v ≤ k := by
  induction k with
  | zero => simp [cnt]
  | succ k ih =>
    unfold cnt
    split <;> omega

theorem dot_succ (t S : Nat → Nat) (k m : Nat) : dot t (cnt S (k + 1)) m = dot t (cnt S k) m + if S k < m then t (S k) else 0 := by
  induction m with
  | zero => simp [dot]
  | succ m ih =>
    simp only [dot]
    rw [ih]
    show _ + (cnt S k m + if m = S k then 1 else 0) * t m = _
    by_cases e : m = S k
    · subst e
      simp [Nat.add_mul]
      omega
    · by_cases h : S k < m
      · have h' : S k < m + 1 := by omega
        simp [e, h, h']
        omega
      · have h' : ¬ S k < m + 1 := by omega
        simp [e, h, h']

theorem dot_zero (t S : Nat → Nat) (m : Nat) : dot t (cnt S 0) m = 0 := by
  induction m with
  | zero => rfl
  | succ m ih =>
    rw [dot, ih]
    simp [cnt]

theorem dot_gen (t S s : Nat → Nat) (h0 : s 0 = 0) (h1 : ∀ k, s (k + 1) = s k + t (S k)) (k : Nat) (h : ∀ i, i < k → S i < 256) : dot t (cnt S k) 256 = s k := by
  induction k with
  | zero => rw [dot_zero, h0]
  | succ k ih => rw [dot_succ, ih (fun i hi => h i (by omega)), if_pos (h k (by omega)), h1]

theorem dot_all (S : Nat → Nat) (k : Nat) (h : ∀ i, i < k → S i < 256) : dot T (cnt S k) 256 = sumT S k :=
  dot_gen T S (sumT S) rfl (fun _ => rfl) k h

/-- The plain law behind one round of the counted sum. -/
theorem dot_round (t c : Nat → Nat) (m s : Nat) (h : s = dot t c m % 4294967296) : ((s : Int) + (c m : Int) * (t m : Int) % 4294967296) % 4294967296 = ((dot t c (m + 1) % 4294967296 : Nat) : Int) := by
  subst h
  show _ = (((dot t c m + c m * t m) % 4294967296 : Nat) : Int)
  rw [Int.natCast_emod, Int.natCast_emod, Int.natCast_add, Int.natCast_mul]
  omega

/-- The counts behind k bytes. -/
def cts (S : Nat → Nat) (k v : Nat) : Value := .int .u32 (cnt S k v : Int)
theorem cts_step (S : Nat → Nat) (k : Nat) : (fun v => if v = S k then Value.int .u32 ((cnt S k (S k) : Int) + 1) else cts S k v) = cts S (k + 1) := by
  funext v
  unfold cts
  by_cases e : v = S k
  · subst e; simp [cnt]
  · simp [cnt, e]

set_option maxRecDepth 100000 in
set_option maxHeartbeats 2000000 in
theorem law3 (ao : Option Addr) (n cap : Nat) (S : Nat → Nat) (w : World) (h : At w ao n (fun i => .int .u8 (S i : Int))) (hS : ∀ i, i < n → S i < 256) (hn : n ≤ maxLen) :
    Calls Try.prog 3 #[.slice ao n cap] w fun e w' => LawPost w e w' := by
  go_enter Try.func3, Try.ntmps3
  go_wp2_with fail
  refine (zz4 ao n cap _ hn).mono ?_
  rintro e w' ⟨⟨b, rfl⟩, hw'⟩
  subst hw'
  rename World => w0
  cases b with
  | false =>
    go_wp2
    go_ret
    exact lawPost (Below.refl _ _)
  | true =>
    by_cases hlen : n ≤ 1048576
    · clear hn
      go_wp2_with fail
      refine (clone5 ao n cap S _ h hlen).mono ?_
      rintro e w1 ⟨ao1, cap1, rfl, hcap1, hp1, hb1⟩
      clear h
      have hz := zero26
      have HS : Hid (∀ i, i < n → S i < 256) := hS
      clear hS
      go_wp2_with fail
      clear hz
      go_loopg [4, 5] 256 (fun gk sh si wr => ∃ k x : Nat, k + gk = 256 ∧ sh = .int .u32 x ∧ si = .int .i64 k ∧ Hid (x = k * 2654435761 % 4294967296) ∧ x < 4294967296 ∧ RowAt wr w1.heap.size 256 (tab k) ∧ Below w1.heap.size w1 wr ∧ w1.heap.size < wr.heap.size)
      case atStart => exact ⟨0, 0, by omega, rfl, rfl, rfl, by omega, (zeros_row w1).congr (fun i _ => by simp [tab]), (Below.refl _ _).alloc (Nat.le_refl _) _, by simp⟩
      case round =>
        obtain ⟨k, x, hk, rfl, rfl, HX, hx, hrow, hnx, hsz⟩ := hrel
        have HK : Hid (k + gk = 256) := hk
        clear hk
        by_cases hlt : k < 256
        · obtain ⟨hck, hfk⟩ := hrow k hlt
          simp only [tab] at hck
          have HR : Hid (RowAt wr w1.heap.size 256 (tab k)) := hrow
          clear hrow
          go_wp2_with fail
          go_roundg (gk - 1)
          case measure => have := HK.out; omega
          case rel =>
            refine ⟨k + 1, (x + 2654435761) % 4294967296, by have := HK.out; omega, by rw [Int.natCast_emod, Int.natCast_add]; rfl, by go_num, ?_, by omega, ?_, hnx.setCell (Nat.le_refl _) _, by simpa using hsz⟩
            · show _ = _
              have := HX.out
              omega
            rw [show ((x : Int) / 16777216) = ((T k : Nat) : Int) by unfold T; have := HX.out; omega, ← tab_step]
            exact HR.out.set hlt _
        · have hk256 : k = 256 := by have := HK.out; omega
          subst hk256
          clear hlt HK HX
          have hz := zero26
          rename World => w2
          have hp2 := hp1.below hnx
          have hB2 : Below w0.heap.size w0 w2 := hb1.trans (hnx.mono hb1.size)
          have HT : Hid (∀ wx, Below w2.heap.size w2 wx → ∀ i, i < 256 → wx.cell? ⟨w1.heap.size, i, none⟩ = some (.int .u32 (T i : Int))) := fun wx hx i hi => by
            have := hrow.below hsz hx i hi
            simpa [tab, hi] using this
          clear hrow hp1 hb1 hnx
          go_wp2_with fail
          clear hz
          go_loopg [7] n (fun gk si wr => ∃ k : Nat, k + gk = n ∧ si = .int .i64 k ∧ RowAt wr w2.heap.size 256 (cts S k) ∧ Below w2.heap.size w2 wr ∧ w2.heap.size < wr.heap.size)
          case atStart => exact ⟨0, by omega, rfl, (zeros_row w2).congr (fun i _ => by simp [cts, cnt]), (Below.refl _ _).alloc (Nat.le_refl _) _, by simp⟩
          case round =>
            obtain ⟨k, hk, rfl, hrow, hnx, hsz3⟩ := hrel
            have HK : Hid (k + gk = n) := hk
            clear hk
            by_cases hlt : k < n
            · obtain ⟨b, o, ha, hb, hc⟩ := hp2.pos hlt
              subst ha
              have h3 := HS.out k hlt
              have c1 : wr.cell? ⟨b, o + k, none⟩ = some (.int .u8 (S k : Int)) := (hnx.cell (by exact hb)).trans (hc k hlt)
              obtain ⟨c2, f2⟩ := hrow (S k) h3
              simp only [cts] at c2
              have hle := cnt_le S k (S k)
              have HR : Hid (RowAt wr w2.heap.size 256 (cts S k)) := hrow
              clear hrow hc
              go_wp2_with fail
              go_roundg (gk - 1)
              case measure => have := HK.out; omega
              case rel =>
                refine ⟨k + 1, by have := HK.out; omega, by go_num, ?_, hnx.setCell (Nat.le_refl _) _, by simpa using hsz3⟩
                rw [← cts_step]
                exact HR.out.set h3 _
            · have hkn : k = n := by have := HK.out; omega
              subst hkn
              clear hlt HK
              rename World => w3
              have hp3 := hp2.below hnx
              have hB3 : Below w0.heap.size w0 w3 := hB2.trans (hnx.mono hB2.size)
              have HC : Hid (∀ wx, Below w3.heap.size w3 wx → ∀ i, i < 256 → wx.cell? ⟨w2.heap.size, i, none⟩ = some (.int .u32 (cnt S k i : Int))) := fun wx hx i hi => hrow.below hsz3 hx i hi
              have HT3 : Hid (∀ wx, Below w3.heap.size w3 wx → ∀ i, i < 256 → wx.cell? ⟨w1.heap.size, i, none⟩ = some (.int .u32 (T i : Int))) := fun wx hx i hi => HT.out wx (hnx.trans (hx.mono hnx.size)) i hi
              clear hrow hp2 hnx HT hB2
              go_wp2_with fail
              rename Nat => n
              go_loopg [8, 9] 256 (fun gk ss si wr => ∃ v s : Nat, v + gk = 256 ∧ ss = .int .u32 s ∧ si = .int .i64 v ∧ Hid (s = dot T (cnt S n) v % 4294967296) ∧ s < 4294967296 ∧ Below w3.heap.size w3 wr)
              case atStart => exact ⟨0, 0, by omega, rfl, rfl, rfl, by omega, Below.refl _ _⟩
              case round =>
                obtain ⟨v, s, hv, rfl, rfl, HD, hs, hnx⟩ := hrel
                have HK : Hid (v + gk = 256) := hv
                clear hv
                by_cases hlt : v < 256
                · have c1 := HC.out wr hnx v hlt
                  have c2 := HT3.out wr hnx v hlt
                  have q1 : (v : Int) < 256 := by omega
                  go_wp2_with fail
                  go_quiet (fail)
                  go_wp2_with fail
                  go_roundg (gk - 1)
                  case measure => have := HK.out; omega
                  case rel =>
                    refine ⟨v + 1, dot T (cnt S n) (v + 1) % 4294967296, by have := HK.out; omega, ?_, by go_num, rfl, Nat.mod_lt _ (by omega), below_drewN hnx _⟩
                    rw [dot_round T (cnt S n) v s HD.out]
                · have hv256 : v = 256 := by have := HK.out; omega
                  subst hv256
                  have HE : Hid (s = sumT S n % 4294967296) := by
                    unfold Hid
                    rw [HD.out, dot_all S n HS.out]
                  clear hlt HK HD
                  have hp4 := hp3.below hnx
                  have hB4 : Below w0.heap.size w0 wr := hB3.trans (hnx.mono hB3.size)
                  clear hp3 hnx hB3
                  go_wp2_with fail
                  refine (floor6 ao1 n cap1 S _ hp4 HS.out hlen).mono ?_
                  rintro e w5 ⟨rfl, hb5⟩
                  have hB5 : Below w0.heap.size w0 w5 := hB4.trans (hb5.mono hB4.size)
                  clear hp4 hb5 hB4
                  go_wp2_with fail
                  go_ret
                  exact lawPostB (by have := HE.out; simp [this]) hB5
    · go_wp2
      go_ret
      exact lawPost (Below.refl _ _)

end Go.Proofs.Qxb6603689a
