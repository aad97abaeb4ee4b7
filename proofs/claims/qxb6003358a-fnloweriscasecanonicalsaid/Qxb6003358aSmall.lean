/-
  The small functions of the road: the two counts of bytes (whatever they answer, they read and return).
-/
import Derived.Test.Qxb6003358aBase
namespace Go.Proofs.Qxb6003358a
open Go.RowKit

set_option maxHeartbeats 400000 in
/-- 'zzBytes_FnLabelsInvertsWireBuild': it reads, and answers some bool. -/
theorem zz6 (ao : Option Addr) (n cap : Nat) (S : Nat → ByteArray) (w : World) (h : StrsAt w ao n S) (hn : n ≤ maxLen) (hS : ∀ i, (S i).size ≤ maxLen) :
    Calls Try.prog 6 #[.slice ao n cap] w fun e w' => RetBool e ∧ w' = w := by
  unfold maxLen at hn hS
  by_cases h1 : n ≤ 1048576
  · rcases h with h | ⟨b, o, rfl, hb, hc⟩
    · subst h
      go_enter Try.func6, Try.ntmps6
      go_wp2
      refine wp_loop_rounds 1 ?_
      rw [rounds_succ]
      go_wp2
      go_ret
      exact ⟨retBool _, rfl⟩
    · go_enter Try.func6, Try.ntmps6
      go_wp2
      go_loop [3, 4] (fun t i => ∃ (k : Nat) (z : Int), k ≤ n ∧ i = .int .i64 k ∧ t = .int .i64 z ∧ 0 ≤ z ∧ z ≤ 1048576) (fun _ i => n - (intOf i).toNat)
      case atStart => exact ⟨0, n, Nat.zero_le _, rfl, rfl, by omega, by omega⟩
      case round =>
        obtain ⟨k, z, hk, rfl, rfl, hz0, hz1⟩ := hrel
        by_cases hlt : k < n
        · have hck := hc k hlt
          have hsk := hS k
          clear hc hS
          go_wp2
          all_goals first
            | (go_ret; exact ⟨retBool _, rfl⟩)
            | (go_round
               case rel => exact ⟨k + 1, z + (S k).size, by omega, by go_num, rfl, by omega, by omega⟩
               case measure => simp [intOf]; omega)
        · go_wp2
          go_ret
          exact ⟨retBool _, rfl⟩
  · go_enter Try.func6, Try.ntmps6
    go_wp2
    go_ret
    exact ⟨retBool _, rfl⟩
set_option maxHeartbeats 400000 in
/-- 'labelBytes': it reads, and answers some number. -/
theorem lb7 (ao : Option Addr) (n cap : Nat) (S : Nat → ByteArray) (w : World) (h : StrsAt w ao n S) (hn : n ≤ maxLen) :
    Calls Try.prog 7 #[.slice ao n cap] w fun e w' => RetInt e ∧ w' = w := by
  unfold maxLen at hn
  rcases h with h | ⟨b, o, rfl, hb, hc⟩
  · subst h
    go_enter Try.func7, Try.ntmps7
    go_wp2
    refine wp_loop_rounds 1 ?_
    rw [rounds_succ]
    go_wp2
    go_ret
    exact ⟨retInt _, rfl⟩
  · go_enter Try.func7, Try.ntmps7
    go_wp2
    go_loop [3, 4] (fun t i => ∃ (k : Nat) (z : Int), k ≤ n ∧ i = .int .i64 k ∧ t = .int .i64 z) (fun _ i => n - (intOf i).toNat)
    case atStart => exact ⟨0, 0, Nat.zero_le _, rfl, rfl⟩
    case round =>
      obtain ⟨k, z, hk, rfl, rfl⟩ := hrel
      by_cases hlt : k < n
      · have hck := hc k hlt
        clear hc
        go_wp2
        all_goals first
          | (go_ret; exact ⟨retInt _, rfl⟩)
          | (go_round
             case rel => exact ⟨k + 1, _, by omega, by go_num, rfl⟩
             case measure => simp [intOf]; omega)
      · go_wp2
        go_ret
        exact ⟨retInt _, rfl⟩

/-- A store into the row under construction: one string more stands. -/
theorem clone_step {wr : World} {b n k : Nat} {S : Nat → ByteArray} {F : Nat → Value} (hr : wr.rowIs b 9 n F) (hF : ∀ i, i < k → F i = .string (S i)) :
    ∃ F', (wr.setCell ⟨b, k, none⟩ (.string (S k))).rowIs b 9 n F' ∧ ∀ i, i < k + 1 → F' i = .string (S i) := by
  refine ⟨_, hr.set k _, fun i hi => ?_⟩
  by_cases e : i = k
  · simp [e]
  · simp only [if_neg e]
    exact hF i (by omega)

set_option maxHeartbeats 400000 in
/-- 'cloneLabels': a new slice of the same strings. -/
theorem clone8 (ao : Option Addr) (n cap : Nat) (S : Nat → ByteArray) (w : World) (h : StrsAt w ao n S) (hn : n ≤ 65536) :
    Calls Try.prog 8 #[.slice ao n cap] w fun e w' => RetStrs w n S e w' := by
  have q : ∀ (w : World) (a : Option Addr) (n c n' c' : Nat), (binOp .eql 22 (.slice a n c) (.slice none n' c')).run Try.prog w = .ok (.bool a.isNone) w :=
    fun w a n c n' c' => Lib.run_eql_slice_nil w 22 9 a n c n' c' Try.underlying22
  have hmk := run_make_row' (P := Try.prog) 22 9 (.string ByteArray.empty) 16 Try.underlying22 info9 rfl .i64 .i64 n (by omega) (by omega)
  cases ao with
  | none =>
    have h0 : n = 0 := by
      rcases h with h | ⟨b, o, h, _⟩
      · exact h
      · cases h
    subst h0
    go_enter Try.func8, Try.ntmps8
    go_wp2
    go_ret
    exact retStrs (Nat.le_refl _) (.inl rfl) (Below.refl _ _)
  | some a =>
    rcases h with h | ⟨b, o, ha, hb, hc⟩
    · have h0 : n ≤ 0 := by omega
      have HN : Hid (n = 0) := h
      clear h
      go_enter Try.func8, Try.ntmps8
      go_wp2
      refine wp_loop_rounds 1 ?_
      rw [rounds_succ]
      go_wp2
      go_ret
      exact retStrs (Nat.le_refl _) (.inl HN.out) ((Below.refl _ _).alloc (Nat.le_refl _) _)
    · obtain rfl : a = ⟨b, o, none⟩ := by simpa using ha
      clear ha
      go_enter Try.func8, Try.ntmps8
      go_wp2
      go_loopg [4] n (fun gk i wr => ∃ (k : Nat) (F : Nat → Value), k + gk = n ∧ i = .int .i64 k ∧ wr.rowIs w.heap.size 9 n F ∧ (∀ i, i < k → F i = .string (S i)) ∧ Below w.heap.size w wr)
      case atStart => exact ⟨0, _, by omega, rfl, World.rowIs_made _ _ _ _, fun i hi => by omega, (Below.refl _ _).alloc (Nat.le_refl _) _⟩
      case round =>
        obtain ⟨k, F, hk, rfl, hr, hF, hnx⟩ := hrel
        by_cases hlt : k < n
        · have hck : wr.cell? ⟨b, o + k, none⟩ = some (.string (S k)) := (hnx.cell (by exact hb)).trans (hc k hlt)
          have hcr := hr.cell hlt
          have hfr := hr.frozen k
          have HK : Hid (k + gk = n) := hk
          have HR : Hid (wr.rowIs w.heap.size 9 n F ∧ ∀ i, i < k → F i = .string (S i)) := ⟨hr, hF⟩
          clear hc hk hF hr q hmk
          go_wp2
          go_roundg (gk - 1)
          case measure => have := HK.out; omega
          case rel =>
            obtain ⟨F', h1, h2⟩ := clone_step HR.out.1 HR.out.2
            exact ⟨k + 1, F', by have := HK.out; omega, by go_num, h1, h2, hnx.setCell (Nat.le_refl _) _⟩
        · have hkn : k = n := by omega
          subst hkn
          clear q hmk
          go_wp2
          go_ret
          exact retStrs (Nat.le_refl _) (StrsAt.row (hr.congr hF)) hnx

end Go.Proofs.Qxb6003358a
