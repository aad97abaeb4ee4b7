/-
  'buildWire_wireg2': what it answers.
-/
import Derived.Test.Qxb6003358aSmall
import Derived.Test.Qxb6003358aPlain
namespace Go.Proofs.Qxb6003358a
open Go.RowKit

/-- What 'buildWire' leaves. -/
def RetWire (w : World) (n : Nat) (S : Nat → ByteArray) (e : Ending) (w' : World) : Prop :=
  Below w.heap.size w w' ∧ ((Good n S ∧ e = .returned (.tuple #[.string (wireOf n S), .bool true])) ∨ (¬ Good n S ∧ e = .returned (.tuple #[.string ByteArray.empty, .bool false])))
theorem retWire_no {w : World} {n : Nat} {S : Nat → ByteArray} (h : ¬ Good n S) : RetWire w n S (.returned (.tuple #[.string ByteArray.empty, .bool false])) w :=
  ⟨Below.refl _ _, .inr ⟨h, rfl⟩⟩
theorem retWire_yes {w w' : World} {n : Nat} {S : Nat → ByteArray} (h : Good n S) (hb : Below w.heap.size w w') {s : ByteArray} (hs : s = wireOf n S) : RetWire w n S (.returned (.tuple #[.string s, .bool true])) w' :=
  ⟨hb, .inl ⟨h, by rw [hs]⟩⟩

theorem bad_size {n k : Nat} {S : Nat → ByteArray} (hk : k < n) (h : (S k).size < 1 ∨ 63 < (S k).size) : ¬ Good n S := fun g => by have := g.2.1 k hk; omega
theorem bad_total {n k : Nat} {S : Nat → ByteArray} (hk : k < n) (h : 255 < 1 + wlen S k + (1 + (S k).size)) : ¬ Good n S := fun g => by have := wlen_step S hk; have := g.2.2; omega

/-- The state of the outer loop: the first k labels are written. -/
def Mid (w wr : World) (n : Nat) (S : Nat → ByteArray) (l : List UInt8) (v : Value) : Prop :=
  v = .slice (some ⟨w.heap.size, 0, none⟩) l.length (wlen S n + 1) ∧ wr.ownsRow w.heap.size 5 1 v l.length ((nums l).map (Value.int .u8)) ∧ Below w.heap.size w wr

/-- One byte appended. -/
theorem mid_step {w wr w1 : World} {n : Nat} {S : Nat → ByteArray} {l : List UInt8} {c : UInt8} {x : Int} (hx : x = c.toNat) (hnx : Below w.heap.size w wr)
    (ho : w1.ownsRow w.heap.size 5 1 (.slice (some ⟨w.heap.size, 0, none⟩) (l.length + 1) (wlen S n + 1)) (l.length + 1) ((nums l).map (Value.int .u8) ++ [.int .u8 x]))
    (hg : (wr.alloc (.cells #[.int .u8 x] 5)).grownBy w1 (some w.heap.size)) :
    Mid w w1 n S (l ++ [c]) (.slice (some ⟨w.heap.size, 0, none⟩) (l.length + 1) (wlen S n + 1)) := by
  subst hx
  refine ⟨by simp, by simpa [nums] using ho, (hnx.alloc hnx.size _).grown hg (by simp; have := hnx.size; omega) (fun k hk => by cases hk; exact Nat.le_refl _)⟩

/-- A row of bytes of the call's own, as a string. -/
theorem conv_bytes {w : World} {base g cap : Nat} {l : List UInt8} (h : w.ownsRow base 5 1 (.slice (some ⟨g, 0, none⟩) l.length cap) l.length ((nums l).map (Value.int .u8))) :
    (convert 36 9 (.slice (some ⟨g, 0, none⟩) l.length cap)).run Try.prog w = .ok (.string ⟨l.toArray⟩) w := by
  have := run_convert_bytes_arg (P := Try.prog) w 36 5 Try.underlying36 Try.underlying5 g 0 l.length cap (nums l) (nums_length l) (fun i hi => by
    rw [Nat.zero_add, h.cellAt i (by omega)]
    have hi' : i < (nums l).length := by rw [nums_length]; exact hi
    simp [List.getD, List.getElem?_eq_getElem hi']) 9 Try.underlying9
  rw [this, strOfNums_nums]

set_option maxHeartbeats 1000000 in
theorem build9 (ao : Option Addr) (n cap : Nat) (S : Nat → ByteArray) (w : World) (h : StrsAt w ao n S) (hn : n ≤ maxLen) (hS : ∀ i, i < n → (S i).size ≤ maxLen) :
    Calls Try.prog 9 #[.slice ao n cap] w fun e w' => RetWire w n S e w' := by
  unfold maxLen at hn hS
  obtain ⟨i0, hi, hz0, hz1, hz2⟩ := info_parts info5
  by_cases h127 : n ≤ 127
  · rcases h with h | ⟨b, o, rfl, hb, hc⟩
    · subst h
      go_enter Try.func9, Try.ntmps9
      go_wp2
      refine wp_loop_rounds 1 ?_
      rw [rounds_succ]
      go_wp2_with (at_make; refine wpList_make_own _ rfl _ _ 36 rfl w.heap.size 5 i0 (.int .u8 0) 1 Try.underlying36 hi hz0 hz1 _ _ _ 1 rfl rfl (by omega) ?b2 ?b3 (Nat.le_refl _) ?_)
      case b2 => rw [hz2]; omega
      case b3 => unfold maxLen; omega
      intro w0 hown0 hgrow0
      have hcv : (convert 36 9 (.slice (some ⟨w.heap.size, 0, none⟩) 0 1)).run Try.prog w0 = .ok (.string ⟨#[]⟩) w0 := conv_bytes (l := []) hown0
      go_wp2
      refine wp_loop_rounds 1 ?_
      rw [rounds_succ]
      go_wp2
      go_ret2
      exact retWire_yes ⟨h127, fun i hi => by omega, by simp [wlen]⟩ ((Below.refl _ _).grown hgrow0 (Nat.le_refl _) (fun k h => by cases h)) rfl
    · go_enter Try.func9, Try.ntmps9
      go_wp2
      go_loopg [4, 5, 6] n (fun gk t i _ wr => ∃ k : Nat, k + gk = n ∧ i = .int .i64 k ∧ t = .int .i64 (1 + (wlen S k : Int)) ∧ wlen S k + 1 ≤ 255 ∧ (∀ j, j < k → 1 ≤ (S j).size ∧ (S j).size ≤ 63) ∧ w = wr)
      case atStart => exact ⟨0, by omega, rfl, rfl, by simp [wlen], fun j hj => by omega, rfl⟩
      case round =>
        obtain ⟨k, hk, rfl, rfl, hlen, hgood, rfl⟩ := hrel
        by_cases hlt : k < n
        · have hck := hc k hlt
          have hsk := hS k hlt
          have HK : Hid (k + gk = n) := hk
          clear hS hk
          go_wp2
          all_goals first
            | (go_roundg (gk - 1)
               case measure => have := HK.out; omega
               case rel =>
                have hsz : 1 ≤ ((S k).size : Int) ∧ ((S k).size : Int) ≤ 63 := by assumption
                refine ⟨k + 1, by have := HK.out; omega, by go_num, by simp only [wlen]; go_num, by simp only [wlen]; omega, fun j hj => ?_, rfl⟩
                by_cases e : j = k
                · subst e; omega
                · exact hgood j (by omega))
            | (go_ret2; exact retWire_no (bad_size hlt (by omega)))
            | (go_ret2; exact retWire_no (bad_total hlt (by omega)))
        · have hkn : k = n := by omega
          subst hkn
          have hG : Good k S := ⟨h127, hgood, hlen⟩
          clear hgood
          go_wp2_with (at_make; refine wpList_make_own _ rfl _ _ 36 rfl w.heap.size 5 i0 (.int .u8 0) 1 Try.underlying36 hi hz0 hz1 _ _ _ (wlen S k + 1) rfl rfl (by omega) ?b2 ?b3 (Nat.le_refl _) ?_)
          case b2 => rw [hz2]; omega
          case b3 => unfold maxLen; omega
          intro w0 hown0 hgrow0
          go_wp2
          go_loopg [7, 8, 9] k (fun gj v i _ wr => ∃ j : Nat, j + gj = k ∧ i = .int .i64 j ∧ Mid w wr k S (wl S j) v)
          case atStart => exact ⟨0, by omega, rfl, rfl, by simpa [wl, nums] using hown0, (Below.refl _ _).grown hgrow0 (Nat.le_refl _) (fun k h => by cases h)⟩
          case round =>
            obtain ⟨j, hj, rfl, rfl, hown, hnx⟩ := hrel
            by_cases hjk : j < k
            · have hcj : wr.cell? ⟨b, o + j, none⟩ = some (.string (S j)) := (hnx.cell (by exact hb)).trans (hc j hjk)
              have hsz := hG.2.1 j hjk
              have hst := wlen_step S hjk
              have hwl := wl_length S j
              have HJ : Hid (j + gk = k) := hj
              have HL : Hid ((wl S j).length = wlen S j) := hwl
              have HG : Hid (Good k S) := hG
              have hroom : (wl S j).length + 1 + (S j).size ≤ wlen S k := by omega
              clear hj hwl hG hS
              go_wp2_with (at_builtin; refine wpList_append_fits _ rfl (.tmp 44) (.tmp 51) 36 rfl w.heap.size 5 i0 1 Try.underlying36 hi hz1 w.heap.size (wl S j).length (wlen S k + 1) _ rfl (hown.alloc _) ⟨wr.heap.size, 0, none⟩ 1 1 [.int .u8 ((S j).size : Int)] rfl rfl (by intro t u ht; match t, ht with | 0, ht => simp at ht; subst ht; simp [Addr.add]) (by intro u hu; simp at hu; subst hu; rfl) (by omega) ?_; intro w1 hown1 hgrow1)
              have M1 : Hid (Mid w w1 k S (wl S j ++ [UInt8.ofNat (S j).size]) (.slice (some ⟨w.heap.size, 0, none⟩) ((wl S j).length + 1) (wlen S k + 1))) :=
                mid_step (by simp; omega) hnx hown1 hgrow1
              clear hown1 hgrow1 hown hnx hcj
              go_loopg [7, 9] (S j).size (fun gi v i wr => ∃ (m : Nat) (l : List UInt8), m + gi = (S j).size ∧ i = .int .i64 m ∧ Mid w wr k S l v ∧ Hid (l = wl S j ++ UInt8.ofNat (S j).size :: (S j).data.toList.take m))
              case atStart => exact ⟨0, wl S j ++ [UInt8.ofNat (S j).size], by omega, rfl, by simpa using M1.out, by simp [Hid]⟩
              case round =>
                obtain ⟨m, l, hm, rfl, ⟨rfl, hown, hnx⟩, HLL⟩ := hrel
                have hll : l.length = (wl S j).length + 1 + m := by rw [HLL.out]; simp; omega
                have hcj : wr.cell? ⟨b, o + j, none⟩ = some (.string (S j)) := (hnx.cell (by exact hb)).trans (hc j hjk)
                by_cases hms : m < (S j).size
                · have hroom2 : l.length + 1 ≤ wlen S k + 1 := by omega
                  have HM : Hid (m + gk = (S j).size) := hm
                  clear hm hll
                  go_wp2_with (at_builtin; refine wpList_append_fits _ rfl (.tmp 62) (.tmp 69) 36 rfl w.heap.size 5 i0 1 Try.underlying36 hi hz1 w.heap.size l.length (wlen S k + 1) _ rfl (hown.alloc _) ⟨wr.heap.size, 0, none⟩ 1 1 [.int .u8 ((S j)[m].toNat : Int)] rfl rfl (by intro t u ht; match t, ht with | 0, ht => simp at ht; subst ht; simp [Addr.add]) (by intro u hu; simp at hu; subst hu; rfl) (by omega) ?_; intro w1 hown1 hgrow1)
                  have M2 := mid_step (c := (S j)[m]) rfl hnx hown1 hgrow1
                  go_roundg (gk - 1)
                  case measure => have := HM.out; omega
                  case rel => exact ⟨m + 1, l ++ [(S j)[m]], by have := HM.out; omega, by go_num, M2, by unfold Hid; rw [HLL.out, take_snoc _ _ hms]; simp⟩
                · have hme : m = (S j).size := by omega
                  have hl2 : l = wl S (j + 1) := by rw [HLL.out, hme, take_full]; rfl
                  have M3 : Hid (Mid w wr k S (wl S (j + 1)) (.slice (some ⟨w.heap.size, 0, none⟩) l.length (wlen S k + 1))) := by rw [← hl2]; exact ⟨rfl, hown, hnx⟩
                  clear hl2 hme hll
                  go_wp2
                  go_roundg (k - j - 1)
                  case measure => have := HJ.out; omega
                  case rel => exact ⟨j + 1, by have := HJ.out; omega, by go_num, M3⟩
            · have hjj : j = k := by omega
              subst hjj
              have hcv := conv_bytes hown
              go_wp2
              go_ret2
              exact retWire_yes hG hnx rfl
  · go_enter Try.func9, Try.ntmps9
    go_wp2
    go_ret2
    exact retWire_no (fun g => h127 g.1)

end Go.Proofs.Qxb6003358a
