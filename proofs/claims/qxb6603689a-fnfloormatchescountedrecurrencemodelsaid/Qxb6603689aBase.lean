/-
  Common ground of this seat's walks: the type tables' rows, and how a slice lies in memory.
-/
import Derived.Test.Qxb6603689aRows
import Derived.WalkKit
import Derived.WalkSpells
import Derived.WalkLawsBesides
import Derived.Deep.QuietTactic
import Derived.BigQuiet
import Derived.Deep.OwnRows
import Derived.Deep.LoopGhost
import Derived.Lib.SliceRun
import Derived.Lib.AppendStr
import Derived.Laws.BytesArg
namespace Go.Proofs.Qxb6603689a
open Go.RowKit

theorem own : ownKnob Try.prog.godebug = none := by kernel_rfl
theorem laidOut : laidOutB Try.prog = true := by kernel_rfl
theorem cells3 : Try.prog.cellsOf 3 = 1 := by kernel_rfl
theorem cells5 : Try.prog.cellsOf 5 = 1 := by kernel_rfl
theorem cells4 : Try.prog.cellsOf 4 = 1 := by kernel_rfl
theorem info5 : (Try.prog.info? 5).map (fun i => (i.zero, i.size, i.bytes)) = some (some (.int .u8 0), 1, 1) := by kernel_rfl

/-- It returned some bool. -/
def RetBool (e : Ending) : Prop := ∃ b, e = .returned (.bool b)
theorem retBool (b : Bool) : RetBool (.returned (.bool b)) := ⟨b, rfl⟩
/-- What a law leaves: it returned true, and nothing that was there has turned. -/
def LawPost (w : World) (e : Ending) (w' : World) : Prop := e = .returned (.bool true) ∧ Below w.heap.size w w'
theorem lawPost {w w' : World} (h : Below w.heap.size w w') : LawPost w (.returned (.bool true)) w' := ⟨rfl, h⟩
theorem lawPostB {w w' : World} {b : Bool} (hb : b = true) (h : Below w.heap.size w w') : LawPost w (.returned (.bool b)) w' := ⟨by rw [hb], h⟩

/-- A slice of n one-cell elements lies at 'ao'. -/
def At (w : World) (ao : Option Addr) (n : Nat) (F : Nat → Value) : Prop :=
  n = 0 ∨ ∃ b o, ao = some ⟨b, o, none⟩ ∧ b < w.heap.size ∧ ∀ i, i < n → w.cell? ⟨b, o + i, none⟩ = some (F i)

theorem At.below {w w' : World} {ao : Option Addr} {n : Nat} {F : Nat → Value} (h : At w ao n F) (hb : Below w.heap.size w w') : At w' ao n F := by
  rcases h with h | ⟨b, o, h1, h2, h3⟩
  · exact .inl h
  · exact .inr ⟨b, o, h1, Nat.lt_of_lt_of_le h2 hb.size, fun i hi => (hb.cell (by exact h2)).trans (h3 i hi)⟩

theorem At.pos {w : World} {ao : Option Addr} {n k : Nat} {F : Nat → Value} (h : At w ao n F) (hk : k < n) :
    ∃ b o, ao = some ⟨b, o, none⟩ ∧ b < w.heap.size ∧ ∀ i, i < n → w.cell? ⟨b, o + i, none⟩ = some (F i) := by
  rcases h with h | h
  · omega
  · exact h

theorem At.congr {w : World} {ao : Option Addr} {n : Nat} {F G : Nat → Value} (h : At w ao n F) (e : ∀ i, i < n → F i = G i) : At w ao n G := by
  rcases h with h | ⟨b, o, h1, h2, h3⟩
  · exact .inl h
  · exact .inr ⟨b, o, h1, h2, fun i hi => by rw [h3 i hi, e i hi]⟩

/-- It handed back a slice of these n elements; below what was there nothing has turned. -/
def RetAt (w : World) (n : Nat) (F : Nat → Value) (e : Ending) (w' : World) : Prop :=
  ∃ ao cap, e = .returned (.slice ao n cap) ∧ n ≤ cap ∧ At w' ao n F ∧ Below w.heap.size w w'
theorem retAt {w w' : World} {n : Nat} {F : Nat → Value} {ao : Option Addr} {cap : Nat} (h1 : n ≤ cap) (h2 : At w' ao n F) (h3 : Below w.heap.size w w') :
    RetAt w n F (.returned (.slice ao n cap)) w' := ⟨ao, cap, rfl, h1, h2, h3⟩

/-- A row of the call's own. -/
theorem At.row {w : World} {b t n : Nat} {F : Nat → Value} (h : w.rowIs b t n F) : At w (some ⟨b, 0, none⟩) n F :=
  .inr ⟨b, 0, rfl, h.lt, fun i hi => by rw [Nat.zero_add]; exact h.cell hi⟩

/-- What is owned, element by element. -/
theorem At.owned {w : World} {base e n cap : Nat} {ao : Option Addr} {xs : List Value} (h : w.ownsRow base e 1 (.slice ao n cap) n xs) : At w ao n (fun i => xs.getD i undef) := by
  have h0 := h
  rcases h0.2 with ⟨hv, hn⟩ | ⟨g, cap', cur, hv, hbg, hg, hnc, hcm, hcs, htake⟩
  · exact .inl hn
  · simp only [Value.slice.injEq] at hv
    obtain ⟨rfl, _, rfl⟩ := hv
    refine .inr ⟨g, 0, rfl, (Array.getElem?_eq_some_iff.1 hg).1, fun i hi => ?_⟩
    rw [Nat.zero_add, h.cellAt i (by omega)]
    have hl : xs.length = n := by simpa using h.1
    simp [List.getD, hl, hi]

/-- A store into a row that is filled from the left. -/
theorem fill_step {wr : World} {b t n k : Nat} {S F : Nat → Value} (hr : wr.rowIs b t n F) (hF : ∀ i, i < k → F i = S i) :
    ∃ F', (wr.setCell ⟨b, k, none⟩ (S k)).rowIs b t n F' ∧ ∀ i, i < k + 1 → F' i = S i := by
  refine ⟨_, hr.set k _, fun i hi => ?_⟩
  by_cases e : i = k
  · simp [e]
  · simp only [if_neg e]
    exact hF i (by omega)


theorem wrapI (x : Int) (h1 : -9223372036854775808 ≤ x) (h2 : x ≤ 9223372036854775807) : IntKind.i64.wrap x = x := by
  rw [IntKind.wrap_i64]
  omega

theorem zz4 (ao : Option Addr) (n cap : Nat) (w : World) (hn : n ≤ maxLen) :
    Calls Try.prog 4 #[.slice ao n cap] w fun e w' => RetBool e ∧ w' = w := by
  unfold maxLen at hn
  go_enter Try.func4, Try.ntmps4
  go_wp2
  all_goals (go_ret; exact ⟨retBool _, rfl⟩)

set_option maxHeartbeats 400000 in
/-- 'zzCloneBytesTimingB1': a new slice of the same bytes. -/
theorem clone5 (ao : Option Addr) (n cap : Nat) (S : Nat → Nat) (w : World) (h : At w ao n (fun i => .int .u8 (S i : Int))) (hn : n ≤ 1048576) :
    Calls Try.prog 5 #[.slice ao n cap] w fun e w' => RetAt w n (fun i => .int .u8 (S i : Int)) e w' := by
  have q : ∀ (w : World) (a : Option Addr) (n c n' c' : Nat), (binOp .eql 22 (.slice a n c) (.slice none n' c')).run Try.prog w = .ok (.bool a.isNone) w :=
    fun w a n c n' c' => Lib.run_eql_slice_nil w 22 5 a n c n' c' Try.underlying22
  have hmk := run_make_row' (P := Try.prog) 22 5 (.int .u8 0) 1 Try.underlying22 info5 rfl .i64 .i64 n (by omega) (by omega)
  cases ao with
  | none =>
    have h0 : n = 0 := by
      rcases h with h | ⟨b, o, h, _⟩
      · exact h
      · cases h
    subst h0
    go_enter Try.func5, Try.ntmps5
    go_wp2
    go_ret
    exact retAt (Nat.le_refl _) (.inl rfl) (Below.refl _ _)
  | some a =>
    rcases h with h | ⟨b, o, ha, hb, hc⟩
    · have h0 : n ≤ 0 := by omega
      have HN : Hid (n = 0) := h
      clear h
      go_enter Try.func5, Try.ntmps5
      go_wp2
      refine wp_loop_rounds 1 ?_
      rw [rounds_succ]
      go_wp2
      go_ret
      exact retAt (Nat.le_refl _) (.inl HN.out) ((Below.refl _ _).alloc (Nat.le_refl _) _)
    · obtain rfl : a = ⟨b, o, none⟩ := by simpa using ha
      clear ha
      go_enter Try.func5, Try.ntmps5
      go_wp2
      go_loopg [4] n (fun gk i wr => ∃ (k : Nat) (F : Nat → Value), k + gk = n ∧ i = .int .i64 k ∧ wr.rowIs w.heap.size 5 n F ∧ (∀ i, i < k → F i = .int .u8 (S i : Int)) ∧ Below w.heap.size w wr)
      case atStart => exact ⟨0, _, by omega, rfl, World.rowIs_made _ _ _ _, fun i hi => by omega, (Below.refl _ _).alloc (Nat.le_refl _) _⟩
      case round =>
        obtain ⟨k, F, hk, rfl, hr, hF, hnx⟩ := hrel
        by_cases hlt : k < n
        · have hck : wr.cell? ⟨b, o + k, none⟩ = some (.int .u8 (S k : Int)) := (hnx.cell (by exact hb)).trans (hc k hlt)
          have hcr := hr.cell hlt
          have hfr := hr.frozen k
          have HK : Hid (k + gk = n) := hk
          have HR : Hid (wr.rowIs w.heap.size 5 n F ∧ ∀ i, i < k → F i = .int .u8 (S i : Int)) := ⟨hr, hF⟩
          clear hc hk hF hr q hmk
          go_wp2
          go_roundg (gk - 1)
          case measure => have := HK.out; omega
          case rel =>
            obtain ⟨F', h1, h2⟩ := fill_step (S := fun i => .int .u8 (S i : Int)) HR.out.1 HR.out.2
            exact ⟨k + 1, F', by have := HK.out; omega, by go_num, h1, h2, hnx.setCell (Nat.le_refl _) _⟩
        · have hkn : k = n := by omega
          subst hkn
          clear q hmk
          go_wp2
          go_ret
          exact retAt (Nat.le_refl _) (At.row (hr.congr hF)) hnx

/-- A row of cells that may be written. -/
def RowAt (w : World) (b n : Nat) (F : Nat → Value) : Prop := ∀ i, i < n → w.cell? ⟨b, i, none⟩ = some (F i) ∧ w.frozen? ⟨b, i, none⟩ = false

theorem RowAt.set {w : World} {b n : Nat} {F : Nat → Value} (h : RowAt w b n F) {k : Nat} (hk : k < n) (v : Value) : RowAt (w.setCell ⟨b, k, none⟩ v) b n (fun i => if i = k then v else F i) := by
  intro i hi
  refine ⟨?_, by rw [World.frozen?_setCell]; exact (h i hi).2⟩
  by_cases e : i = k
  · subst e
    simp only [if_true]
    exact World.cell?_setCell_same w _ _ (h i hi).1
  · simp only [if_neg e]
    rw [World.cell?_setCell_other w _ _ _ (fun h => e (by injection h with _ h2 _; exact h2.symm))]
    exact (h i hi).1

theorem RowAt.congr {w : World} {b n : Nat} {F G : Nat → Value} (h : RowAt w b n F) (e : ∀ i, i < n → F i = G i) : RowAt w b n G := fun i hi => by rw [← e i hi]; exact h i hi

theorem RowAt.below {w w' : World} {b n : Nat} {F : Nat → Value} (h : RowAt w b n F) (hb : b < w.heap.size) (bel : Below w.heap.size w w') (i : Nat) (hi : i < n) : w'.cell? ⟨b, i, none⟩ = some (F i) :=
  (bel.cell (by exact hb)).trans (h i hi).1

end Go.Proofs.Qxb6603689a
