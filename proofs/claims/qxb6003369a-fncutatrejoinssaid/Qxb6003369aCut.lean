/-
  The callees of 'FnCutAtRejoins': the count of bytes, zzCloneBools, cutAt, ZZCutAt.
-/
import Derived.Test.Qxb6003369aBase
namespace Go.Proofs.Qxb6003369a
open Go.RowKit

theorem zz17 (s : ByteArray) (ao : Option Addr) (n cap : Nat) (w : World) (hs : s.size ≤ maxLen) (hn : n ≤ maxLen) :
    Calls Try.prog 17 #[.string s, .slice ao n cap] w fun e w' => RetBool e ∧ w' = w := by
  unfold maxLen at hs hn
  go_enter Try.func17, Try.ntmps17
  go_wp2
  all_goals (go_ret; exact ⟨retBool _, rfl⟩)

set_option maxHeartbeats 400000 in
/-- 'zzCloneBools': a new slice of the same bools. -/
theorem clone18 (ao : Option Addr) (n cap : Nat) (S : Nat → Bool) (w : World) (h : At w ao n (fun i => .bool (S i))) (hn : n ≤ 65536) :
    Calls Try.prog 18 #[.slice ao n cap] w fun e w' => RetAt w n (fun i => .bool (S i)) e w' := by
  have q : ∀ (w : World) (a : Option Addr) (n c n' c' : Nat), (binOp .eql 34 (.slice a n c) (.slice none n' c')).run Try.prog w = .ok (.bool a.isNone) w :=
    fun w a n c n' c' => Lib.run_eql_slice_nil w 34 4 a n c n' c' Try.underlying34
  have hmk := run_make_row' (P := Try.prog) 34 4 (.bool false) 1 Try.underlying34 info4 rfl .i64 .i64 n (by omega) (by omega)
  cases ao with
  | none =>
    have h0 : n = 0 := by
      rcases h with h | ⟨b, o, h, _⟩
      · exact h
      · cases h
    subst h0
    go_enter Try.func18, Try.ntmps18
    go_wp2
    go_ret
    exact retAt (Nat.le_refl _) (.inl rfl) (Below.refl _ _)
  | some a =>
    rcases h with h | ⟨b, o, ha, hb, hc⟩
    · have h0 : n ≤ 0 := by omega
      have HN : Hid (n = 0) := h
      clear h
      go_enter Try.func18, Try.ntmps18
      go_wp2
      refine wp_loop_rounds 1 ?_
      rw [rounds_succ]
      go_wp2
      go_ret
      exact retAt (Nat.le_refl _) (.inl HN.out) ((Below.refl _ _).alloc (Nat.le_refl _) _)
    · obtain rfl : a = ⟨b, o, none⟩ := by simpa using ha
      clear ha
      go_enter Try.func18, Try.ntmps18
      go_wp2
      go_loopg [4] n (fun gk i wr => ∃ (k : Nat) (F : Nat → Value), k + gk = n ∧ i = .int .i64 k ∧ wr.rowIs w.heap.size 4 n F ∧ (∀ i, i < k → F i = .bool (S i)) ∧ Below w.heap.size w wr)
      case atStart => exact ⟨0, _, by omega, rfl, World.rowIs_made _ _ _ _, fun i hi => by omega, (Below.refl _ _).alloc (Nat.le_refl _) _⟩
      case round =>
        obtain ⟨k, F, hk, rfl, hr, hF, hnx⟩ := hrel
        by_cases hlt : k < n
        · have hck : wr.cell? ⟨b, o + k, none⟩ = some (.bool (S k)) := (hnx.cell (by exact hb)).trans (hc k hlt)
          have hcr := hr.cell hlt
          have hfr := hr.frozen k
          have HK : Hid (k + gk = n) := hk
          have HR : Hid (wr.rowIs w.heap.size 4 n F ∧ ∀ i, i < k → F i = .bool (S i)) := ⟨hr, hF⟩
          clear hc hk hF hr q hmk
          go_wp2
          go_roundg (gk - 1)
          case measure => have := HK.out; omega
          case rel =>
            obtain ⟨F', h1, h2⟩ := fill_step (S := fun i => .bool (S i)) HR.out.1 HR.out.2
            exact ⟨k + 1, F', by have := HK.out; omega, by go_num, h1, h2, hnx.setCell (Nat.le_refl _) _⟩
        · have hkn : k = n := by omega
          subst hkn
          clear q hmk
          go_wp2
          go_ret
          exact retAt (Nat.le_refl _) (At.row (hr.congr hF)) hnx

/-! ### The plain side: where the pieces lie -/
/-- Where piece j begins. -/
def st (A : Nat → Nat) : Nat → Nat
  | 0 => 0
  | j + 1 => A j + 1
/-- Increasing offsets inside a text of n bytes. -/
def Inc (A : Nat → Nat) (c n : Nat) : Prop := ∀ j, j < c → st A j ≤ A j ∧ A j < n
/-- Piece j of c + 1. -/
def pc (s : ByteArray) (A : Nat → Nat) (c j : Nat) : ByteArray := s.extract (st A j) (if j < c then A j else s.size)

theorem st_le {A : Nat → Nat} {c n : Nat} (h : Inc A c n) {j : Nat} (hj : j ≤ c) : st A j ≤ n := by
  cases j with
  | zero => exact Nat.zero_le _
  | succ j => exact (h j (by omega)).2

set_option maxHeartbeats 1000000 in
theorem cut27 (s : ByteArray) (ao : Option Addr) (c cap : Nat) (A : Nat → Nat) (w : World) (h : At w ao c (fun i => .int .i64 (A i : Int))) (hA : Inc A c s.size) (hc : 1 ≤ c) (hc2 : c ≤ 65536) (hs : s.size ≤ 65536) :
    Calls Try.prog 27 #[.string s, .slice ao c cap] w fun e w' => RetAt w (c + 1) (fun j => .string (pc s A c j)) e w' := by
  obtain ⟨i0, hi, hz0, hz1, hz2⟩ := info_parts info9
  obtain ⟨b, o, rfl, hb, hcl⟩ := h.pos (show 0 < c by omega)
  have hz : ((c : Int) == 0) = false := beq_eq_false_iff_ne.2 (by omega)
  go_enter Try.func27, Try.ntmps27
  go_wp2_with (at_make; refine wpList_make_own _ rfl _ _ 37 rfl w.heap.size 9 i0 (.string ByteArray.empty) 1 Try.underlying37 hi hz0 hz1 _ _ _ (c + 1) rfl rfl (by omega) ?b2 ?b3 (Nat.le_refl _) ?_)
  case b2 => rw [hz2]; omega
  case b3 => unfold maxLen; omega
  intro w0 hown0 hgrow0
  go_wp2
  go_loopg [5, 6, 8, 18] c (fun gk v sp _ sj wr => ∃ (j p : Nat), j + gk = c ∧ sj = .int .i64 j ∧ sp = .int .i64 p ∧ Hid (p = st A j) ∧ v = .slice (some ⟨w.heap.size, 0, none⟩) j (c + 1) ∧ wr.ownsRow w.heap.size 9 1 (.slice (some ⟨w.heap.size, 0, none⟩) j (c + 1)) j ((List.range j).map fun i => .string (pc s A c i)) ∧ Below w.heap.size w wr)
  case atStart => exact ⟨0, 0, by omega, rfl, rfl, rfl, rfl, hown0, (Below.refl _ _).grown hgrow0 (Nat.le_refl _) (fun k h => by cases h)⟩
  case round =>
    obtain ⟨j, p, hj, rfl, rfl, HP, rfl, hown, hnx⟩ := hrel
    have hpn : p ≤ s.size := by rw [HP.out]; exact st_le hA (by omega)
    by_cases hlt : j < c
    · have hcj : wr.cell? ⟨b, o + j, none⟩ = some (.int .i64 (A j : Int)) := (hnx.cell (by exact hb)).trans (hcl j hlt)
      obtain ⟨ha1, ha2⟩ := hA j hlt
      rw [← HP.out] at ha1
      have HJ : Hid (j + gk = c) := hj
      clear hj hcl
      go_wp2_with (at_builtin; refine wpList_append_fits _ rfl (.tmp 22) (.tmp 27) 37 rfl w.heap.size 9 i0 1 Try.underlying37 hi hz1 w.heap.size j (c + 1) _ rfl (hown.alloc _) ⟨wr.heap.size, 0, none⟩ 1 1 [.string (s.extract p (A j))] rfl rfl (cell_one_new _ _ _) (by intro u hu; simp at hu; subst hu; rfl) (by omega) ?_; intro w1 hown1 hgrow1)
      have HO : Hid (w1.ownsRow w.heap.size 9 1 (.slice (some ⟨w.heap.size, 0, none⟩) (j + 1) (c + 1)) (j + 1) ((List.range (j + 1)).map fun i => .string (pc s A c i))) := by
        unfold Hid
        rw [List.range_succ, List.map_append]
        have e : pc s A c j = s.extract p (A j) := by rw [pc, if_pos hlt, HP.out]
        simpa [e] using hown1
      have hB1 := (hnx.alloc hnx.size (.cells #[.string (s.extract p (A j))] 9)).grown hgrow1 (by simp; have := hnx.size; omega) (fun k hk => by cases hk; exact Nat.le_refl _)
      clear hown1 hgrow1 hown
      go_wp2
      go_roundg (gk - 1)
      case measure => have := HJ.out; omega
      case rel => exact ⟨j + 1, A j + 1, by have := HJ.out; omega, by go_num, by go_num, rfl, rfl, HO.out, hB1⟩
    · have hjc : j = c := by omega
      subst hjc
      clear hcl
      go_wp2_with (at_builtin; refine wpList_append_fits _ rfl (.tmp 32) (.tmp 36) 37 rfl w.heap.size 9 i0 1 Try.underlying37 hi hz1 w.heap.size j (j + 1) _ rfl (hown.alloc _) ⟨wr.heap.size, 0, none⟩ 1 1 [.string (s.extract p s.size)] rfl rfl (cell_one_new _ _ _) (by intro u hu; simp at hu; subst hu; rfl) (by omega) ?_; intro w1 hown1 hgrow1)
      have HO : Hid (w1.ownsRow w.heap.size 9 1 (.slice (some ⟨w.heap.size, 0, none⟩) (j + 1) (j + 1)) (j + 1) ((List.range (j + 1)).map fun i => .string (pc s A j i))) := by
        unfold Hid
        rw [List.range_succ, List.map_append]
        have e : pc s A j j = s.extract p s.size := by rw [pc, if_neg (Nat.lt_irrefl _), HP.out]
        simpa [e] using hown1
      have hB1 := (hnx.alloc hnx.size (.cells #[.string (s.extract p s.size)] 9)).grown hgrow1 (by simp; have := hnx.size; omega) (fun k hk => by cases hk; exact Nat.le_refl _)
      clear hown1 hgrow1 hown
      go_wp2
      go_ret
      exact retAt (Nat.le_refl _) ((At.owned HO.out).congr fun i hi => by simp [List.getD, hi]) hB1

theorem cut19 (s : ByteArray) (ao : Option Addr) (c cap : Nat) (A : Nat → Nat) (w : World) (h : At w ao c (fun i => .int .i64 (A i : Int))) (hA : Inc A c s.size) (hc : 1 ≤ c) (hc2 : c ≤ 65536) (hs : s.size ≤ 65536) :
    Calls Try.prog 19 #[.string s, .slice ao c cap] w fun e w' => RetAt w (c + 1) (fun j => .string (pc s A c j)) e w' := by
  go_enter Try.func19, Try.ntmps19
  go_wp2_with fail
  refine (cut27 s ao c cap A w h hA hc hc2 hs).mono ?_
  rintro e w1 ⟨ao1, cap1, rfl, h1, h2, h3⟩
  go_wp2
  go_ret
  exact retAt h1 h2 h3

theorem cut19z (s : ByteArray) (ao : Option Addr) (cap : Nat) (w : World) : Calls Try.prog 19 #[.string s, .slice ao 0 cap] w fun e w' => e = .returned (.slice none 0 0) ∧ w' = w := by
  go_enter Try.func19, Try.ntmps19
  go_wp2
  go_ret
  exact ⟨rfl, rfl⟩

end Go.Proofs.Qxb6003369a
