/-
  The callees of 'FnNewKMPBackIsLongestBorder'.
-/
import Derived.Test.Qxb6003369aBase
import Derived.Test.Qxb6003369aKmp
namespace Go.Proofs.Qxb6003369a
open Go.RowKit

/-- A slice of ints. -/
abbrev IAt (w : World) (ao : Option Addr) (n : Nat) (P : Nat → Int) : Prop := At w ao n (fun i => .int .i64 (P i))

theorem wrapI (x : Int) (h1 : -9223372036854775808 ≤ x) (h2 : x ≤ 9223372036854775807) : IntKind.i64.wrap x = x := by
  rw [IntKind.wrap_i64]
  omega

theorem zz13 (ao : Option Addr) (n cap : Nat) (w : World) (hn : n ≤ maxLen) :
    Calls Try.prog 13 #[.slice ao n cap] w fun e w' => RetBool e ∧ w' = w := by
  unfold maxLen at hn
  go_enter Try.func13, Try.ntmps13
  go_wp2
  all_goals (go_ret; exact ⟨retBool _, rfl⟩)

set_option maxHeartbeats 400000 in
/-- 'zzCloneInts': a new slice of the same ints. -/
theorem clone14 (ao : Option Addr) (n cap : Nat) (S : Nat → Int) (w : World) (h : At w ao n (fun i => .int .i64 (S i))) (hn : n ≤ 65536) :
    Calls Try.prog 14 #[.slice ao n cap] w fun e w' => RetAt w n (fun i => .int .i64 (S i)) e w' := by
  have q : ∀ (w : World) (a : Option Addr) (n c n' c' : Nat), (binOp .eql 30 (.slice a n c) (.slice none n' c')).run Try.prog w = .ok (.bool a.isNone) w :=
    fun w a n c n' c' => Lib.run_eql_slice_nil w 30 3 a n c n' c' Try.underlying30
  have hmk := run_make_row' (P := Try.prog) 30 3 (.int .i64 0) 8 Try.underlying30 info3 rfl .i64 .i64 n (by omega) (by omega)
  cases ao with
  | none =>
    have h0 : n = 0 := by
      rcases h with h | ⟨b, o, h, _⟩
      · exact h
      · cases h
    subst h0
    go_enter Try.func14, Try.ntmps14
    go_wp2
    go_ret
    exact retAt (Nat.le_refl _) (.inl rfl) (Below.refl _ _)
  | some a =>
    rcases h with h | ⟨b, o, ha, hb, hc⟩
    · have h0 : n ≤ 0 := by omega
      have HN : Hid (n = 0) := h
      clear h
      go_enter Try.func14, Try.ntmps14
      go_wp2
      refine wp_loop_rounds 1 ?_
      rw [rounds_succ]
      go_wp2
      go_ret
      exact retAt (Nat.le_refl _) (.inl HN.out) ((Below.refl _ _).alloc (Nat.le_refl _) _)
    · obtain rfl : a = ⟨b, o, none⟩ := by simpa using ha
      clear ha
      go_enter Try.func14, Try.ntmps14
      go_wp2
      go_loopg [4] n (fun gk i wr => ∃ (k : Nat) (F : Nat → Value), k + gk = n ∧ i = .int .i64 k ∧ wr.rowIs w.heap.size 3 n F ∧ (∀ i, i < k → F i = .int .i64 (S i)) ∧ Below w.heap.size w wr)
      case atStart => exact ⟨0, _, by omega, rfl, World.rowIs_made _ _ _ _, fun i hi => by omega, (Below.refl _ _).alloc (Nat.le_refl _) _⟩
      case round =>
        obtain ⟨k, F, hk, rfl, hr, hF, hnx⟩ := hrel
        by_cases hlt : k < n
        · have hck : wr.cell? ⟨b, o + k, none⟩ = some (.int .i64 (S k)) := (hnx.cell (by exact hb)).trans (hc k hlt)
          have hcr := hr.cell hlt
          have hfr := hr.frozen k
          have HK : Hid (k + gk = n) := hk
          have HR : Hid (wr.rowIs w.heap.size 3 n F ∧ ∀ i, i < k → F i = .int .i64 (S i)) := ⟨hr, hF⟩
          clear hc hk hF hr q hmk
          go_wp2
          go_roundg (gk - 1)
          case measure => have := HK.out; omega
          case rel =>
            obtain ⟨F', h1, h2⟩ := fill_step (S := fun i => .int .i64 (S i)) HR.out.1 HR.out.2
            exact ⟨k + 1, F', by have := HK.out; omega, by go_num, h1, h2, hnx.setCell (Nat.le_refl _) _⟩
        · have hkn : k = n := by omega
          subst hkn
          clear q hmk
          go_wp2
          go_ret
          exact retAt (Nat.le_refl _) (At.row (hr.congr hF)) hnx


/-- It returned this bool; nothing that was there has turned. -/
def RetB (w : World) (b : Bool) (e : Ending) (w' : World) : Prop := e = .returned (.bool b) ∧ Below w.heap.size w w'
theorem retB {w w' : World} {b c : Bool} (hb : c = b) (h : Below w.heap.size w w') : RetB w b (.returned (.bool c)) w' := ⟨by rw [hb], h⟩
/-- It returned this int; nothing that was there has turned. -/
def RetI (w : World) (n : Int) (e : Ending) (w' : World) : Prop := e = .returned (.int .i64 n) ∧ Below w.heap.size w w'
theorem retI {w w' : World} {n m : Int} (hb : m = n) (h : Below w.heap.size w w') : RetI w n (.returned (.int .i64 m)) w' := ⟨by rw [hb], h⟩

set_option maxHeartbeats 1000000 in
/-- 'zzBorderOf'. -/
theorem brd26 (b o n cap : Nat) (P : Nat → Int) (i l : Nat) (w : World) (hb : b < w.heap.size) (hc : ∀ x, x < n → w.cell? ⟨b, o + x, none⟩ = some (.int .i64 (P x))) (hi : i < n) (hl : l ≤ i) (hn : n ≤ 256) :
    Calls Try.prog 26 #[.slice (some ⟨b, o, none⟩) n cap, .int .i64 i, .int .i64 l] w fun e w' => RetB w (brdB P i l) e w' := by
  go_enter Try.func26, Try.ntmps26
  go_wp2
  go_loopg [7] l (fun gk sj wr => ∃ j : Nat, j + gk = l ∧ sj = .int .i64 j ∧ Hid (∀ x, x < j → P x = P (i + 1 - l + x)) ∧ Below w.heap.size w wr)
  case atStart => exact ⟨0, by omega, rfl, fun x hx => by omega, Below.refl _ _⟩
  case round =>
    obtain ⟨j, hj, rfl, HB, hnx⟩ := hrel
    have HJ : Hid (j + gk = l) := hj
    clear hj
    by_cases hlt : j < l
    · have c1 : wr.cell? ⟨b, o + j, none⟩ = some (.int .i64 (P j)) := (hnx.cell (by exact hb)).trans (hc j (by omega))
      have c2 : wr.cell? ⟨b, o + (i + 1 - l + j), none⟩ = some (.int .i64 (P (i + 1 - l + j))) := (hnx.cell (by exact hb)).trans (hc _ (by omega))
      have e1 := wrapI ((i : Int) + 1) (by omega) (by omega)
      have e2 := wrapI ((i : Int) + 1 - l) (by omega) (by omega)
      have e3 := wrapI ((i : Int) + 1 - l + j) (by omega) (by omega)
      have t3 : ((i : Int) + 1 - l + j).toNat = i + 1 - l + j := by omega
      have q1 : (j : Int) < n := by omega
      have q2 : 0 ≤ (i : Int) + 1 - l + j := by omega
      have q3 : (i : Int) + 1 - l + j < n := by omega
      clear hc
      by_cases he : P j = P (i + 1 - l + j)
      · have hne : (P j != P (i + 1 - l + j)) = false := by simp [he]
        have HE : Hid (P j = P (i + 1 - l + j)) := he
        clear he
        go_wp2
        go_quiet (fail)
        go_wp2
        go_roundg (gk - 1)
        case measure => have := HJ.out; omega
        case rel =>
          refine ⟨j + 1, by have := HJ.out; omega, by go_num, fun x hx => ?_, below_drewN hnx _⟩
          by_cases e : x = j
          · subst e; exact HE.out
          · exact HB.out x (by omega)
      · have hne : (P j != P (i + 1 - l + j)) = true := by simp [he]
        have hf : false = brdB P i l := by
          rw [eq_comm, Bool.eq_false_iff]
          intro h
          exact he ((brdB_iff P i l).1 h j hlt)
        have HF : Hid (false = brdB P i l) := hf
        clear he hf
        go_wp2
        go_quiet (fail)
        go_wp2
        go_ret
        exact retB HF.out (below_drewN hnx _)
    · have hf : true = brdB P i l := by
        rw [eq_comm, brdB_iff]
        intro x hx
        exact HB.out x (by omega)
      have HF : Hid (true = brdB P i l) := hf
      clear hf hc
      go_wp2
      go_ret
      exact retB HF.out hnx

set_option maxHeartbeats 1000000 in
/-- 'zzLongestBorder'. -/
theorem lb16 (b o n cap : Nat) (P : Nat → Int) (i : Nat) (w : World) (hb : b < w.heap.size) (hc : ∀ x, x < n → w.cell? ⟨b, o + x, none⟩ = some (.int .i64 (P x))) (hi : i < n) (hn : n ≤ 256) :
    Calls Try.prog 16 #[.slice (some ⟨b, o, none⟩) n cap, .int .i64 i] w fun e w' => RetI w (lb P i) e w' := by
  have HC : Hid (∀ x, x < n → w.cell? ⟨b, o + x, none⟩ = some (.int .i64 (P x))) := hc
  clear hc
  go_enter Try.func16, Try.ntmps16
  go_wp2
  go_loopg [5] i (fun gk sl wr => ∃ l : Nat, l = gk ∧ sl = .int .i64 l ∧ l ≤ i ∧ Hid (fb P i l = lb P i) ∧ Below w.heap.size w wr)
  case atStart => exact ⟨i, rfl, rfl, Nat.le_refl _, rfl, Below.refl _ _⟩
  case round =>
    obtain ⟨l, hl, rfl, hli, HF, hnx⟩ := hrel
    have HL : Hid (l = gk) := hl
    clear hl
    by_cases h1 : 1 ≤ l
    · go_wp2_with fail
      refine (brd26 b o n cap P i l wr (Nat.lt_of_lt_of_le hb hnx.size) (fun x hx => (hnx.cell (by exact hb)).trans (HC.out x hx)) hi hli hn).mono ?_
      rintro e w1 ⟨rfl, hb1⟩
      have hB1 : Below w.heap.size w w1 := hnx.trans (hb1.mono hnx.size)
      clear hb1 hnx
      obtain ⟨m, rfl⟩ : ∃ m, l = m + 1 := ⟨l - 1, by omega⟩
      cases hbr : brdB P i (m + 1) with
      | true =>
        have HR : Hid (m + 1 = lb P i) := by
          unfold Hid
          rw [← HF.out, fb, if_pos hbr]
        clear hbr
        go_wp2
        go_ret
        exact retI (by have := HR.out; omega) hB1
      | false =>
        have HR : Hid (fb P i m = lb P i) := by
          unfold Hid
          rw [← HF.out, fb, if_neg (by rw [hbr]; decide)]
        clear hbr
        go_wp2
        go_roundg (gk - 1)
        case measure => have := HL.out; omega
        case rel => exact ⟨m, by have := HL.out; omega, by go_num, by omega, HR.out, hB1⟩
    · have HR : Hid (0 = lb P i) := by
        unfold Hid
        rw [← HF.out, show l = 0 by omega]
        rfl
      go_wp2
      go_ret
      exact retI (by have := HR.out; omega) hnx

end Go.Proofs.Qxb6003369a
