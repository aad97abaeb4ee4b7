/-
  'newKMP' and 'ZZNewKMPBack': the failure table.
-/
import Derived.Test.Qxb6003369aKmpWalks
namespace Go.Proofs.Qxb6003369a
open Go.RowKit

/-- What 'newKMP' leaves. -/
def RetKmp (w : World) (v : Value) (n : Nat) (P : Nat → Int) (e : Ending) (w' : World) : Prop :=
  ∃ ao cap, e = .returned (.agg #[v, .slice ao n cap]) ∧ n ≤ cap ∧ IAt w' ao n (fun i => (lb P i : Int)) ∧ Below w.heap.size w w'

theorem kmp_start (w : World) (n : Nat) (P : Nat → Int) :
    ∃ F, ((w.alloc (.cells #[.slice none 0 0, .slice none 0 0] 49)).alloc (.cells (madeCells #[.int .i64 0] n) 3)).rowIs (w.heap.size + 1) 3 n F ∧ Hid (∀ x, x < 0 + 1 → F x = .int .i64 (lb P x : Int)) ∧
      ((w.alloc (.cells #[.slice none 0 0, .slice none 0 0] 49)).alloc (.cells (madeCells #[.int .i64 0] n) 3)).heap[w.heap.size]? = some (.cells #[.slice none 0 0, .slice none 0 0] 49 (0, 0)) ∧
      Below w.heap.size w ((w.alloc (.cells #[.slice none 0 0, .slice none 0 0] 49)).alloc (.cells (madeCells #[.int .i64 0] n) 3)) := by
  have e : (w.alloc (.cells #[.slice none 0 0, .slice none 0 0] 49)).heap.size = w.heap.size + 1 := by simp
  refine ⟨fun _ => .int .i64 0, ?_, fun x hx => ?_, ?_, ((Below.refl _ _).alloc (Nat.le_refl _) _).alloc (by simp) _⟩
  · rw [← e]
    exact World.rowIs_made _ _ _ _
  · have : x = 0 := by omega
    subst this
    rfl
  · rw [Below.heap_alloc _ _ _ (by simp)]
    exact heap_alloc_new w _

/-- One entry more of the table. -/
theorem kmp_step {w wr : World} {n i : Nat} {P : Nat → Int} {F : Nat → Value} {x : Int} (hr : wr.rowIs (w.heap.size + 1) 3 n F) (hF : ∀ x, x < i + 1 → F x = .int .i64 (lb P x : Int)) (hx : x = (lb P (i + 1) : Int))
    (hh : wr.heap[w.heap.size]? = some (.cells #[.slice none 0 0, .slice none 0 0] 49 (0, 0))) (hnx : Below w.heap.size w wr) :
    ∃ F', (wr.setCell ⟨w.heap.size + 1, i + 1, none⟩ (.int .i64 x)).rowIs (w.heap.size + 1) 3 n F' ∧ Hid (∀ x, x < i + 1 + 1 → F' x = .int .i64 (lb P x : Int)) ∧
      (wr.setCell ⟨w.heap.size + 1, i + 1, none⟩ (.int .i64 x)).heap[w.heap.size]? = some (.cells #[.slice none 0 0, .slice none 0 0] 49 (0, 0)) ∧ Below w.heap.size w (wr.setCell ⟨w.heap.size + 1, i + 1, none⟩ (.int .i64 x)) := by
  subst hx
  obtain ⟨F', h1, h2⟩ := fill_step (S := fun x => .int .i64 (lb P x : Int)) hr hF
  exact ⟨F', h1, h2, by rw [Below.heap_setCell _ _ _ _ (by simp)]; exact hh, hnx.setCell (by simp) _⟩

/-- What a world that has only drawn or grown still holds. -/
theorem kmp_kept {w wo wr : World} {n : Nat} {F : Nat → Value} (hr : wo.rowIs (w.heap.size + 1) 3 n F) (hh : wo.heap[w.heap.size]? = some (.cells #[.slice none 0 0, .slice none 0 0] 49 (0, 0))) (hnx : Below w.heap.size w wo) (hb : Below wo.heap.size wo wr) :
    wr.rowIs (w.heap.size + 1) 3 n F ∧ wr.heap[w.heap.size]? = some (.cells #[.slice none 0 0, .slice none 0 0] 49 (0, 0)) ∧ Below w.heap.size w wr := by
  have hl := hr.lt
  exact ⟨hr.of_block (hb.block _ hl), (hb.block _ (by omega)).trans hh, hnx.trans (hb.mono hnx.size)⟩

set_option maxHeartbeats 2000000 in
theorem new25 (b o n cap : Nat) (P : Nat → Int) (w : World) (hb : b < w.heap.size) (hc : ∀ x, x < n → w.cell? ⟨b, o + x, none⟩ = some (.int .i64 (P x))) (h1 : 1 ≤ n) (hn : n ≤ 256) :
    Calls Try.prog 25 #[.slice (some ⟨b, o, none⟩) n cap] w fun e w' => RetKmp w (.slice (some ⟨b, o, none⟩) n cap) n P e w' := by
  have hmk := run_make_row' (P := Try.prog) 30 3 (.int .i64 0) 8 Try.underlying30 info3 rfl .i64 .i64 n (by omega) (by omega)
  have HC : Hid (∀ x, x < n → w.cell? ⟨b, o + x, none⟩ = some (.int .i64 (P x))) := hc
  clear hc
  go_enter Try.func25, Try.ntmps25
  go_wp2
  clear hmk
  go_loopg [4, 5] (n - 1) (fun gk sk si wr => ∃ (i : Nat) (F : Nat → Value), i + 1 + gk = n ∧ si = .int .i64 ((i : Int) + 1) ∧ sk = .int .i64 (lb P i : Int) ∧ wr.rowIs (w.heap.size + 1) 3 n F ∧ Hid (∀ x, x < i + 1 → F x = .int .i64 (lb P x : Int)) ∧ wr.heap[w.heap.size]? = some (.cells #[.slice none 0 0, .slice none 0 0] 49 (0, 0)) ∧ Below w.heap.size w wr)
  case atStart =>
    obtain ⟨F, h2, h3, h4, h5⟩ := kmp_start w n P
    exact ⟨0, F, by omega, rfl, rfl, h2, h3, h4, h5⟩
  case round =>
    rename World => wo
    obtain ⟨i, F, hi, rfl, rfl, hr, HF, hh, hnx⟩ := hrel
    have HI : Hid (i + 1 + gk = n) := hi
    clear hi
    have hlb := lb_le P i
    by_cases hlt : i + 1 < n
    · have t1 : ((i : Int) + 1).toNat = i + 1 := by omega
      have q0 : (0 : Int) ≤ (i : Int) + 1 := by omega
      have q1 : (i : Int) + 1 < n := by omega
      have hin : i < 256 := by omega
      go_wp2_with fail
      go_loopg [4] (lb P i) (fun g sk wr => ∃ k : Nat, Hid (k = g) ∧ sk = .int .i64 k ∧ k ≤ i ∧ Hid (KInv P i k) ∧ Below wo.heap.size wo wr)
      case atStart => exact ⟨lb P i, rfl, rfl, hlb, kinv_start P i, Below.refl _ _⟩
      case round =>
        obtain ⟨k, HK, rfl, hki, HV, hni⟩ := hrel
        obtain ⟨hr', hh', hnx'⟩ := kmp_kept hr hh hnx hni
        have c1 : wr.cell? ⟨b, o + (i + 1), none⟩ = some (.int .i64 (P (i + 1))) := (hnx'.cell (by exact hb)).trans (HC.out (i + 1) hlt)
        have c2 : wr.cell? ⟨b, o + k, none⟩ = some (.int .i64 (P k)) := (hnx'.cell (by exact hb)).trans (HC.out k (by omega))
        have q2 : (k : Int) < n := by omega
        by_cases he : P (i + 1) = P k
        · have b1 : (P (i + 1) != P k) = false := by simp [he]
          have b2 : (P (i + 1) == P k) = true := by simp [he]
          have HL : Hid (lb P (i + 1) = k + 1) := kinv_hit HV.out he
          have hcr := hr'.cell hlt
          have hfr := hr'.frozen (i + 1)
          have HR : Hid (wr.rowIs (w.heap.size + 1) 3 n F ∧ wr.heap[w.heap.size]? = some (.cells #[.slice none 0 0, .slice none 0 0] 49 (0, 0))) := ⟨hr', hh'⟩
          clear he hr hh hnx hr' hh'
          by_cases hk : 1 ≤ k
          · have q3 : (0 : Int) < k := by omega
            have q4 : 0 < k := by omega
            go_wp2_with fail
            go_quiet (fail)
            go_wp2_with fail
            go_quiet (fail)
            go_wp2_with fail
            go_roundg (n - i - 2)
            case measure => have := HI.out; omega
            case rel =>
              obtain ⟨F', r1, r2, r3, r4⟩ := kmp_step (i := i) (P := P) (x := (k : Int) + 1) HR.out.1 HF.out (by rw [HL.out]; omega) HR.out.2 hnx'
              exact ⟨i + 1, F', by have := HI.out; omega, by go_num, by rw [HL.out]; go_num, r1, r2, r3, ⟨r4.os, r4.tape, r4.output, r4.size, r4.block⟩⟩
          · have q3 : decide ((0 : Int) < (k : Int)) = false := decide_eq_false (by omega)
            have q4 : decide (0 < k) = false := decide_eq_false (by omega)
            go_wp2_with fail
            go_quiet (fail)
            go_wp2_with fail
            go_quiet (fail)
            go_wp2_with fail
            go_roundg (n - i - 2)
            case measure => have := HI.out; omega
            case rel =>
              obtain ⟨F', r1, r2, r3, r4⟩ := kmp_step (i := i) (P := P) (x := (k : Int) + 1) HR.out.1 HF.out (by rw [HL.out]; omega) HR.out.2 hnx'
              exact ⟨i + 1, F', by have := HI.out; omega, by go_num, by rw [HL.out]; go_num, r1, r2, r3, ⟨r4.os, r4.tape, r4.output, r4.size, r4.block⟩⟩
        · have b1 : (P (i + 1) != P k) = true := by simp [he]
          have b2 : (P (i + 1) == P k) = false := by simp [he]
          by_cases hk : 1 ≤ k
          · have q3 : (0 : Int) < k := by omega
            have q4 : 0 < k := by omega
            have HV2 : Hid (KInv P i (lb P (k - 1))) := kinv_step HV.out hk he
            have c3 : wr.cell? ⟨w.heap.size + 1, k - 1, none⟩ = some (.int .i64 (lb P (k - 1) : Int)) := by rw [hr'.cell (i := k - 1) (by omega), HF.out (k - 1) (by omega)]
            have hl2 := lb_le P (k - 1)
            clear he hr hh hnx hr' hh'
            go_wp2_with fail
            go_quiet (fail)
            go_wp2_with fail
            go_roundg (lb P (k - 1))
            case measure => have := HK.out; omega
            case rel => exact ⟨lb P (k - 1), rfl, rfl, by omega, HV2.out, below_drewN hni _⟩
          · have q3 : decide ((0 : Int) < (k : Int)) = false := decide_eq_false (by omega)
            have q4 : decide (0 < k) = false := decide_eq_false (by omega)
            have hk0 : k = 0 := by omega
            have HL : Hid (lb P (i + 1) = 0) := by
              unfold Hid
              rw [hk0] at he
              have hv := HV.out
              rw [hk0] at hv
              exact kinv_miss hv he
            have HK0 : Hid ((k : Int) = (0 : Nat)) := by unfold Hid; omega
            have hcr := hr'.cell hlt
            have hfr := hr'.frozen (i + 1)
            have HR : Hid (wr.rowIs (w.heap.size + 1) 3 n F ∧ wr.heap[w.heap.size]? = some (.cells #[.slice none 0 0, .slice none 0 0] 49 (0, 0))) := ⟨hr', hh'⟩
            clear he hr hh hnx hr' hh' hk0
            go_wp2_with fail
            go_quiet (fail)
            go_wp2_with fail
            go_quiet (fail)
            go_wp2_with fail
            go_roundg (n - i - 2)
            case measure => have := HI.out; omega
            case rel =>
              obtain ⟨F', r1, r2, r3, r4⟩ := kmp_step (i := i) (P := P) (x := (k : Int)) HR.out.1 HF.out (by rw [HL.out]; omega) HR.out.2 hnx'
              exact ⟨i + 1, F', by have := HI.out; omega, by go_num, by rw [HL.out, HK0.out], r1, r2, r3, ⟨r4.os, r4.tape, r4.output, r4.size, r4.block⟩⟩
    · have hin : i + 1 = n := by have := HI.out; omega
      have k0 : wo.cell? ⟨w.heap.size, 0, none⟩ = some (.slice none 0 0) := by simp [World.cell?, hh]
      have k1 : wo.cell? ⟨w.heap.size, 1, none⟩ = some (.slice none 0 0) := by simp [World.cell?, hh]
      have f0 : wo.frozen? ⟨w.heap.size, 0, none⟩ = false := by simp [World.frozen?, hh]
      have f1 : wo.frozen? ⟨w.heap.size, 1, none⟩ = false := by simp [World.frozen?, hh]
      have HA : Hid (wo.rowIs (w.heap.size + 1) 3 n (fun i => .int .i64 (lb P i : Int))) := hr.congr fun x hx => HF.out x (by omega)
      have HB : Hid (Below w.heap.size w wo) := hnx
      clear hh hr hin hnx
      go_wp2_with fail
      refine bodyPost_ret (v := .agg #[.slice (some ⟨b, o, none⟩) n cap, .slice (some ⟨w.heap.size + 1, 0, none⟩) n n]) (by simp [results, Try.results25, go_sem, k0, k1]) rfl ⟨_, _, rfl, Nat.le_refl _, ?_, ?_⟩
      · exact At.row ((HA.out.setOther (by simp) _).setOther (by simp) _)
      · exact (HB.out.setCell (Nat.le_refl _) _).setCell (Nat.le_refl _) _

theorem new25z (ao : Option Addr) (cap : Nat) (P : Nat → Int) (w : World) :
    Calls Try.prog 25 #[.slice ao 0 cap] w fun e w' => RetKmp w (.slice ao 0 cap) 0 P e w' := by
  have hmk : ∀ w, (Instr.makeSlice 30 (.int .i64 0) (.int .i64 0)).run Try.prog w = .ok (.slice (some ⟨w.heap.size, 0, none⟩) 0 0) (w.alloc (.cells (madeCells #[.int .i64 0] 0) 3)) :=
    run_make_row' (P := Try.prog) 30 3 (.int .i64 0) 8 Try.underlying30 info3 rfl .i64 .i64 0 (by omega) (by omega)
  go_enter Try.func25, Try.ntmps25
  go_wp2
  clear hmk
  refine wp_loop_rounds 1 ?_
  rw [rounds_succ]
  go_wp2
  refine bodyPost_ret (v := .agg #[.slice ao 0 cap, .slice (some ⟨w.heap.size + 1, 0, none⟩) 0 0]) (by simp [results, Try.results25, go_sem]) rfl ⟨_, _, rfl, Nat.le_refl _, .inl rfl, ?_⟩
  exact ((Below.refl _ _).alloc (Nat.le_refl _) _).alloc (by simp) _

theorem field49 (w : World) (a : Option Addr) (n c : Nat) (a' : Option Addr) (n' c' : Nat) : (Instr.field 49 (.agg #[.slice a n c, .slice a' n' c']) 1).run Try.prog w = .ok (.slice a' n' c') w := by kernel_rfl

theorem back15 (ao : Option Addr) (n cap : Nat) (P : Nat → Int) (w : World) (h : IAt w ao n P) (hn : n ≤ 256) :
    Calls Try.prog 15 #[.slice ao n cap] w fun e w' => RetAt w n (fun i => .int .i64 (lb P i : Int)) e w' := by
  have H : Hid (Calls Try.prog 25 #[.slice ao n cap] w fun e w' => RetKmp w (.slice ao n cap) n P e w') := by
    unfold Hid
    by_cases h0 : n = 0
    · subst h0
      exact new25z ao cap P w
    · obtain ⟨b, o, rfl, hb, hc⟩ := h.pos (show 0 < n by omega)
      exact new25 b o n cap P w hb hc (by omega) hn
  have hf := field49
  go_enter Try.func15, Try.ntmps15
  go_wp2_with fail
  refine H.out.mono ?_
  rintro e w1 ⟨ao1, cap1, rfl, h1, h2, h3⟩
  go_wp2
  go_ret
  exact retAt h1 h2 h3

end Go.Proofs.Qxb6003369a
