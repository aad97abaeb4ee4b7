/-
  'lower', 'Name.Lower', 'Name.Parent'.
-/
import Derived.Test.Qxb6003358aLabels
import Derived.Laws.IdiomStrings
namespace Go.Proofs.Qxb6003358a
open Go.RowKit

theorem ret_int {k : IntKind} {a b : Int} (h : a = b) : Ending.returned (.int k a) = .returned (.int k b) := by rw [h]

theorem low20 (c : UInt8) (w : World) : Calls Try.prog 20 #[.int .u8 c.toNat] w fun e w' => e = .returned (.int .u8 (lowB c).toNat) ∧ w' = w := by
  have hc := UInt8.toNat_lt c
  by_cases h1 : 65 ≤ c.toNat
  · by_cases h2 : c.toNat ≤ 90
    · have hl := lowB_yes ⟨h1, h2⟩
      have HL : Hid (((lowB c).toNat : Int) = c.toNat + 32) := hl
      clear hl
      go_enter Try.func20, Try.ntmps20
      go_wp2
      go_ret
      exact ⟨ret_int (by rw [HL.out]; show (c.toNat : Int) + 97 - 65 = _; omega), rfl⟩
    · have hl := lowB_no (c := c) (by omega)
      rw [hl]
      clear hl
      go_enter Try.func20, Try.ntmps20
      go_wp2
      go_ret
      exact ⟨rfl, rfl⟩
  · have hl := lowB_no (c := c) (by omega)
    rw [hl]
    clear hl
    go_enter Try.func20, Try.ntmps20
    go_wp2
    go_ret
    exact ⟨rfl, rfl⟩

/-- A row of cells that may be written. -/
def RowAt (w : World) (b n : Nat) (F : Nat → Value) : Prop := ∀ i, i < n → w.cell? ⟨b, i, none⟩ = some (F i) ∧ w.frozen? ⟨b, i, none⟩ = false

theorem RowAt.set {w : World} {b n : Nat} {F : Nat → Value} (h : RowAt w b n F) {k : Nat} (hk : k < n) (v : Value) : RowAt (w.setCell ⟨b, k, none⟩ v) b n (fun i => if i = k then v else F i) := by
  intro i hi
  refine ⟨?_, by rw [World.frozen?_setCell]; exact (h i hi).2⟩
  by_cases e : i = k
  · subst e
    simp only [if_true]
    exact World.cell?_setCell_same w _ _ (h i hi).1
  · simp only [if_neg e]
    rw [World.cell?_setCell_other w _ _ _ (fun h => e (by injection h with _ h2 _; exact h2.symm))]
    exact (h i hi).1

theorem RowAt.congr {w : World} {b n : Nat} {F G : Nat → Value} (h : RowAt w b n F) (e : ∀ i, i < n → F i = G i) : RowAt w b n G := fun i hi => by rw [← e i hi]; exact h i hi

/-- What a string's bytes are laid as. -/
theorem rowAt_bytes (w : World) (s : ByteArray) (cap m : Nat) (hm : s.size ≤ m) :
    RowAt (w.alloc (.cells (bytesRow s cap) 5 (m, m + 1))) w.heap.size s.size (fun i => .int .u8 ((s.data.toList.getD i 0).toNat : Int)) := by
  intro i hi
  have hh : (w.alloc (.cells (bytesRow s cap) 5 (m, m + 1))).heap[w.heap.size]? = some (.cells (bytesRow s cap) 5 (m, m + 1)) := heap_alloc_new w _
  constructor
  · have := bytesRow_at s cap i hi
    simp only [World.cell?]
    rw [hh]
    simp [this, List.getD, hi]
  · simp only [World.frozen?]
    rw [hh]
    simp
    omega

theorem bytesRow_size (s : ByteArray) (cap : Nat) : s.size ≤ (bytesRow s cap).size := by
  simp [bytesRow]

/-- What 'Lower' leaves. -/
def RetName (w : World) (s : ByteArray) (e : Ending) (w' : World) : Prop := e = .returned (.agg #[.string s]) ∧ Below w.heap.size w w'
theorem retName {w w' : World} {s : ByteArray} (h : Below w.heap.size w w') : RetName w s (.returned (.agg #[.string s])) w' := ⟨rfl, h⟩

/-- The bytes of s, the first k of them folded. -/
def mixF (s : ByteArray) (k : Nat) (i : Nat) : Value := .int .u8 (((if i < k then lowB (s.data.toList.getD i 0) else s.data.toList.getD i 0).toNat : Nat) : Int)

theorem mixF_step (s : ByteArray) (k : Nat) : (fun i => if i = k then Value.int .u8 ((lowB (s.data.toList.getD k 0)).toNat : Int) else mixF s k i) = mixF s (k + 1) := by
  funext i
  unfold mixF
  by_cases e : i = k
  · subst e; simp
  · simp only [if_neg e]
    by_cases h : i < k
    · rw [if_pos h, if_pos (by omega)]
    · rw [if_neg h, if_neg (by omega)]

/-- The folded row, as a string. -/
theorem conv_low {w : World} {b cap : Nat} {s : ByteArray} (h : RowAt w b s.size (mixF s s.size)) :
    (convert 36 9 (.slice (some ⟨b, 0, none⟩) s.size cap)).run Try.prog w = .ok (.string (lowA s)) w := by
  have := run_convert_bytes_arg (P := Try.prog) w 36 5 Try.underlying36 Try.underlying5 b 0 s.size cap (nums (lowA s).data.toList) (by simp [nums_length, lowA]) (fun i hi => by
    rw [Nat.zero_add, (h i hi).1]
    simp [mixF, hi, nums, lowA, List.getD]) 9 Try.underlying9
  rw [this, strOfNums_nums]

theorem low_start (w : World) (A : Obj) (s : ByteArray) (cap : Nat) :
    RowAt (((w.alloc A).alloc (.cells #[.string ⟨#[]⟩] 29)).alloc (.cells (bytesRow s cap) 5 ((bytesRow s cap).size, (bytesRow s cap).size + 1))).drew (w.heap.size + 2) s.size (mixF s 0) ∧
    (((w.alloc A).alloc (.cells #[.string ⟨#[]⟩] 29)).alloc (.cells (bytesRow s cap) 5 ((bytesRow s cap).size, (bytesRow s cap).size + 1))).drew.cell? ⟨w.heap.size + 1, 0, none⟩ = some (.string ⟨#[]⟩) ∧
    (((w.alloc A).alloc (.cells #[.string ⟨#[]⟩] 29)).alloc (.cells (bytesRow s cap) 5 ((bytesRow s cap).size, (bytesRow s cap).size + 1))).drew.frozen? ⟨w.heap.size + 1, 0, none⟩ = false ∧
    Below w.heap.size w (((w.alloc A).alloc (.cells #[.string ⟨#[]⟩] 29)).alloc (.cells (bytesRow s cap) 5 ((bytesRow s cap).size, (bytesRow s cap).size + 1))).drew := by
  have hh : (((w.alloc A).alloc (.cells #[.string ⟨#[]⟩] 29)).alloc (.cells (bytesRow s cap) 5 ((bytesRow s cap).size, (bytesRow s cap).size + 1))).heap[w.heap.size + 1]? = some (.cells #[.string ⟨#[]⟩] 29 (0, 0)) := by
    rw [Below.heap_alloc _ _ _ (by simp)]
    have := heap_alloc_new (w.alloc A) (.cells #[.string ⟨#[]⟩] 29)
    rwa [show (w.alloc A).heap.size = w.heap.size + 1 by simp] at this
  refine ⟨?_, ?_, ?_, ?_⟩
  · have h := rowAt_bytes ((w.alloc A).alloc (.cells #[.string ⟨#[]⟩] 29)) s cap _ (bytesRow_size s cap)
    have e : ((w.alloc A).alloc (.cells #[.string ⟨#[]⟩] 29)).heap.size = w.heap.size + 2 := by simp
    rw [e] at h
    exact RowAt.congr (fun i hi => h i hi) (fun i _ => by simp [mixF])
  · show World.cell? (((w.alloc A).alloc _).alloc _) _ = _
    simp only [World.cell?]
    rw [hh]
    rfl
  · show World.frozen? (((w.alloc A).alloc _).alloc _) _ = _
    simp only [World.frozen?]
    rw [hh]
    rfl
  · exact ((((Below.refl _ _).alloc (Nat.le_refl _) _).alloc (by simp) _).alloc (by simp; omega) _).drew

theorem low_step {w wr : World} {s : ByteArray} {k : Nat} (hk : k < s.size) (hrow : RowAt wr (w.heap.size + 2) s.size (mixF s k)) (hc : wr.cell? ⟨w.heap.size + 1, 0, none⟩ = some (.string ⟨#[]⟩)) (hf : wr.frozen? ⟨w.heap.size + 1, 0, none⟩ = false) (hnx : Below w.heap.size w wr)
    {x : Int} (hx : x = ((lowB (s.data.toList.getD k 0)).toNat : Int)) :
    RowAt (wr.setCell ⟨w.heap.size + 2, k, none⟩ (.int .u8 x)) (w.heap.size + 2) s.size (mixF s (k + 1)) ∧ (wr.setCell ⟨w.heap.size + 2, k, none⟩ (.int .u8 x)).cell? ⟨w.heap.size + 1, 0, none⟩ = some (.string ⟨#[]⟩) ∧
    (wr.setCell ⟨w.heap.size + 2, k, none⟩ (.int .u8 x)).frozen? ⟨w.heap.size + 1, 0, none⟩ = false ∧ Below w.heap.size w (wr.setCell ⟨w.heap.size + 2, k, none⟩ (.int .u8 x)) := by
  subst hx
  refine ⟨by rw [← mixF_step]; exact hrow.set hk _, ?_, by rw [World.frozen?_setCell]; exact hf, hnx.setCell (by simp) _⟩
  rw [World.cell?_setCell_other wr _ _ _ (fun h => by injection h with h1 _ _; omega)]
  exact hc

set_option maxHeartbeats 1000000 in
theorem lower14 (s : ByteArray) (w : World) (hs : s.size ≤ 254) : Calls Try.prog 14 #[.agg #[.string s]] w fun e w' => RetName w (lowA s) e w' := by
  have hcv := fun (w : World) => run_bytes_of_string (P := Try.prog) w 9 36 5 s Try.underlying9 Try.underlying36 Try.underlying5
  go_enter Try.func14, Try.ntmps14
  go_wp2
  clear hcv
  go_loopg [4, 10] s.size (fun gk _ i wr => ∃ k : Nat, k + gk = s.size ∧ i = .int .i64 k ∧ RowAt wr (w.heap.size + 2) s.size (mixF s k) ∧ wr.cell? ⟨w.heap.size + 1, 0, none⟩ = some (.string ⟨#[]⟩) ∧ wr.frozen? ⟨w.heap.size + 1, 0, none⟩ = false ∧ Below w.heap.size w wr)
  case atStart =>
    exact ⟨0, by omega, rfl, low_start w _ s _⟩
  case round =>
    obtain ⟨k, hk, rfl, hrow, hc1, hf1, hnx⟩ := hrel
    by_cases hlt : k < s.size
    · obtain ⟨hck, hfk⟩ := hrow k hlt
      simp only [mixF, if_neg (Nat.lt_irrefl k)] at hck
      have HK : Hid (k + gk = s.size) := hk
      clear hk
      go_wp2_with (go_at_call 20; refine (low20 _ _).mono ?_; rintro e w' ⟨rfl, rfl⟩)
      go_roundg (gk - 1)
      case measure => have := HK.out; omega
      case rel => exact ⟨k + 1, by have := HK.out; omega, by go_num, low_step hlt hrow hc1 hf1 hnx (by simp [List.getD, hlt])⟩
    · have hkn : k = s.size := by omega
      rw [hkn] at hrow
      have hcv := fun cap => conv_low (cap := cap) hrow
      clear hrow hkn
      go_wp2
      exact bodyPost_ret (v := .agg #[.string (lowA s)]) (by simp [results, Try.results14, go_sem, hc1]) rfl (retName (hnx.setCell (by simp) _))

theorem parent13e (w : World) : Calls Try.prog 13 #[.agg #[.string ⟨#[]⟩]] w fun e w' => RetName w ⟨#[]⟩ e w' := by
  go_enter Try.func13, Try.ntmps13
  go_wp2
  exact bodyPost_ret (v := .agg #[.string ⟨#[]⟩]) (by simp [results, Try.results13, go_sem]) rfl (retName (((Below.refl _ _).alloc (Nat.le_refl _) _).alloc (by simp) _))

theorem parent13s (s : ByteArray) (w : World) (hs : s.size ≤ 254) (h0 : 0 < s.size) (h1 : 1 + s[0].toNat ≤ s.size) : Calls Try.prog 13 #[.agg #[.string s]] w fun e w' => RetName w (s.extract (1 + s[0].toNat) s.size) e w' := by
  have hne : s.toList.isEmpty = false := by
    rw [ByteArray.toList_eq]
    cases h : s.data.toList with
    | nil =>
      have hl : s.data.toList.length = s.size := by simp
      rw [h] at hl
      simp only [List.length_nil] at hl
      omega
    | cons a l => rfl
  have hb := UInt8.toNat_lt s[0]
  have e2 := wrapI (s[0].toNat : Int) (by omega) (by omega)
  have e3 := wrapI (1 + (s[0].toNat : Int)) (by omega) (by omega)
  have t2 : (1 + (s[0].toNat : Int)).toNat = 1 + s[0].toNat := by omega
  have q0 : (0 : Int) < s.size := by omega
  have q2 : 0 ≤ 1 + (s[0].toNat : Int) := by omega
  have q3 : 1 + (s[0].toNat : Int) ≤ s.size := by omega
  go_enter Try.func13, Try.ntmps13
  go_wp2
  go_region
  all_goals
    go_wp2
    refine bodyPost_ret (v := .agg #[.string (s.extract (1 + s[0].toNat) s.size)]) (by simp [results, Try.results13, go_sem]) rfl (retName ?_)
    exact (((Below.refl _ _).alloc (Nat.le_refl _) _).alloc (by simp) _).drew

theorem parent13 (n : Nat) (S : Nat → ByteArray) (hn : 1 ≤ n) (hG : Good n S) (w : World) : Calls Try.prog 13 #[.agg #[.string (wireOf n S)]] w fun e w' => RetName w (wireOf (n - 1) (sh S)) e w' := by
  obtain ⟨m, rfl⟩ : ∃ m, n = m + 1 := ⟨n - 1, by omega⟩
  rw [show m + 1 - 1 = m by omega]
  have hsz := wireOf_size (m + 1) S
  have h3 := hG.2.2
  have h0 : 0 < (wireOf (m + 1) S).size := by have := wlen_le S (m + 1); omega
  obtain ⟨e1, e2⟩ := parent_plain hG h0
  have hst := wlen_step S (show 0 < m + 1 by omega)
  have hl0 : wlen S 0 = 0 := rfl
  have := parent13s (wireOf (m + 1) S) w (by omega) h0 (by rw [e1]; omega)
  rw [e1, e2] at this
  exact this

theorem lower14w (n : Nat) (S : Nat → ByteArray) (hG : Good n S) (w : World) : Calls Try.prog 14 #[.agg #[.string (wireOf n S)]] w fun e w' => RetName w (wireOf n (lowS S)) e w' := by
  have := lower14 (wireOf n S) w (by rw [wireOf_size]; have := hG.2.2; omega)
  rw [low_wire (fun i hi => (hG.2.1 i hi).2)] at this
  exact this

theorem parent13l (n : Nat) (S : Nat → ByteArray) (hn : 1 ≤ n) (hG : Good n S) (w : World) : Calls Try.prog 13 #[.agg #[.string (wireOf n (lowS S))]] w fun e w' => RetName w (wireOf (n - 1) (lowS (sh S))) e w' :=
  parent13 n (lowS S) hn (good_low hG) w

end Go.Proofs.Qxb6003358a
