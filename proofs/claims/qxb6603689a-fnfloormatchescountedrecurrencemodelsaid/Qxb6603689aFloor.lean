/-
  'timing.Floor', walked.
-/
import Derived.Test.Qxb6603689aBase
namespace Go.Proofs.Qxb6603689a
open Go.RowKit

/-- The table's entry. -/
def T (i : Nat) : Nat := i * 2654435761 % 4294967296 / 16777216
theorem T_lt (i : Nat) : T i < 256 := by unfold T; omega

/-- The sum of the entries of the first k bytes. -/
def sumT (S : Nat → Nat) : Nat → Nat
  | 0 => 0
  | k + 1 => sumT S k + T (S k)

/-- The zero array of 256 words. -/
def zeros : Array Value := Array.replicate 256 (.int .u32 0)

theorem zero26 (w : World) : (zeroValue 26).run Try.prog w = .ok (.agg zeros) w := by kernel_rfl

theorem zeros_row (w : World) : RowAt (w.alloc (.cells zeros 26)) w.heap.size 256 (fun _ => .int .u32 0) := by
  have hh : (w.alloc (.cells zeros 26)).heap[w.heap.size]? = some (.cells zeros 26 (0, 0)) := heap_alloc_new w _
  intro i hi
  constructor
  · simp only [World.cell?]
    rw [hh]
    simp [zeros, hi]
  · simp only [World.frozen?]
    rw [hh]
    simp

/-- The table of which k entries are laid. -/
def tab (k i : Nat) : Value := .int .u32 (if i < k then (T i : Int) else 0)
theorem tab_step (k : Nat) : (fun i => if i = k then Value.int .u32 (T k : Int) else tab k i) = tab (k + 1) := by
  funext i
  unfold tab
  by_cases e : i = k
  · subst e; simp
  · have : (i < k + 1) = (i < k) := by apply propext; omega
    simp only [if_neg e, this]

def RetU (w : World) (n : Nat) (e : Ending) (w' : World) : Prop := e = .returned (.int .u32 (n : Int)) ∧ Below w.heap.size w w'
theorem retU {w w' : World} {n : Nat} {m : Int} (hb : m = n) (h : Below w.heap.size w w') : RetU w n (.returned (.int .u32 m)) w' := ⟨by rw [hb], h⟩

set_option maxRecDepth 100000 in
theorem floor6 (ao : Option Addr) (n cap : Nat) (S : Nat → Nat) (w : World) (h : At w ao n (fun i => .int .u8 (S i : Int))) (hS : ∀ i, i < n → S i < 256) (hn : n ≤ 1048576) :
    Calls Try.prog 6 #[.slice ao n cap] w fun e w' => RetU w (sumT S n % 4294967296) e w' := by
  have hz := zero26
  go_enter Try.func6, Try.ntmps6
  go_wp2
  clear hz
  go_loopg [4, 8] 256 (fun gk _ si wr => ∃ k : Nat, k + gk = 256 ∧ si = .int .i64 k ∧ RowAt wr w.heap.size 256 (tab k) ∧ Below w.heap.size w wr ∧ w.heap.size < wr.heap.size)
  case atStart => exact ⟨0, by omega, rfl, (zeros_row w).congr (fun i _ => by simp [tab]), (Below.refl _ _).alloc (Nat.le_refl _) _, by simp⟩
  case round =>
    obtain ⟨k, hk, rfl, hrow, hnx, hsz⟩ := hrel
    have HK : Hid (k + gk = 256) := hk
    clear hk
    by_cases hlt : k < 256
    · obtain ⟨hck, hfk⟩ := hrow k hlt
      simp only [tab] at hck
      have HR : Hid (RowAt wr w.heap.size 256 (tab k)) := hrow
      clear hrow
      go_wp2
      go_roundg (gk - 1)
      case measure => have := HK.out; omega
      case rel =>
        refine ⟨k + 1, by have := HK.out; omega, by go_num, ?_, hnx.setCell (Nat.le_refl _) _, by simpa using hsz⟩
        rw [show ((k : Int) * 2654435761 % 4294967296 / 16777216) = ((T k : Nat) : Int) by unfold T; omega, ← tab_step]
        exact HR.out.set hlt _
    · have hk256 : k = 256 := by have := HK.out; omega
      subst hk256
      clear hlt HK
      have HR : Hid (RowAt wr w.heap.size 256 (tab 256)) := hrow
      clear hrow
      go_wp2
      rename World => w1
      go_loopg [5, 7, 20] n (fun gk ss _ si wr => ∃ k s : Nat, k + gk = n ∧ ss = .int .u32 s ∧ si = .int .i64 k ∧ Hid (s = sumT S k % 4294967296) ∧ s < 4294967296 ∧ wr = w1)
      case atStart => exact ⟨0, 0, by omega, rfl, rfl, rfl, by omega, rfl⟩
      case round =>
        obtain ⟨k, s, hk, rfl, rfl, HS, hs, rfl⟩ := hrel
        have HK : Hid (k + gk = n) := hk
        clear hk
        by_cases hlt : k < n
        · obtain ⟨b, o, ha, hb, hc⟩ := h.pos hlt
          subst ha
          have c1 : wr.cell? ⟨b, o + k, none⟩ = some (.int .u8 (S k : Int)) := (hnx.cell (by exact hb)).trans (hc k hlt)
          have c2 := (HR.out (S k) (hS k hlt)).1
          simp only [tab, if_pos (hS k hlt)] at c2
          have h3 := hS k hlt
          clear hc h hS
          go_wp2
          go_roundg (gk - 1)
          case measure => have := HK.out; omega
          case rel =>
            refine ⟨k + 1, (s + T (S k)) % 4294967296, by have := HK.out; omega, by rw [Int.natCast_emod, Int.natCast_add]; rfl, by go_num, ?_, by omega, rfl⟩
            show (s + T (S k)) % 4294967296 = (sumT S k + T (S k)) % 4294967296
            have := HS.out
            omega
        · have hkn : k = n := by have := HK.out; omega
          subst hkn
          clear hlt HK
          go_wp2
          go_ret
          exact retU (by have := HS.out; omega) hnx
end Go.Proofs.Qxb6603689a
