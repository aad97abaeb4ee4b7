/-
  Common ground of this seat's walks: the type tables' rows, and how a slice lies in memory.
-/
import Derived.Test.Qxb6003369aRows
import Derived.WalkKit
import Derived.WalkSpells
import Derived.WalkLawsBesides
import Derived.Deep.QuietTactic
import Derived.BigQuiet
import Derived.Deep.OwnRows
import Derived.Deep.LoopGhost
import Derived.Lib.SliceRun
import Derived.Lib.AppendStr
import Derived.Laws.BytesArg
namespace Go.Proofs.Qxb6003369a
open Go.RowKit

theorem own : ownKnob Try.prog.godebug = none := by kernel_rfl
theorem laidOut : laidOutB Try.prog = true := by kernel_rfl
theorem cells3 : Try.prog.cellsOf 3 = 1 := by kernel_rfl
theorem cells4 : Try.prog.cellsOf 4 = 1 := by kernel_rfl
theorem cells9 : Try.prog.cellsOf 9 = 1 := by kernel_rfl
theorem info3 : (Try.prog.info? 3).map (fun i => (i.zero, i.size, i.bytes)) = some (some (.int .i64 0), 1, 8) := by kernel_rfl
theorem info4 : (Try.prog.info? 4).map (fun i => (i.zero, i.size, i.bytes)) = some (some (.bool false), 1, 1) := by kernel_rfl
theorem info5 : (Try.prog.info? 5).map (fun i => (i.zero, i.size, i.bytes)) = some (some (.int .u8 0), 1, 1) := by kernel_rfl
theorem info9 : (Try.prog.info? 9).map (fun i => (i.zero, i.size, i.bytes)) = some (some (.string ByteArray.empty), 1, 16) := by kernel_rfl

/-- It returned some bool. -/
def RetBool (e : Ending) : Prop := ∃ b, e = .returned (.bool b)
theorem retBool (b : Bool) : RetBool (.returned (.bool b)) := ⟨b, rfl⟩
/-- What a law leaves: it returned true, and nothing that was there has turned. -/
def LawPost (w : World) (e : Ending) (w' : World) : Prop := e = .returned (.bool true) ∧ Below w.heap.size w w'
theorem lawPost {w w' : World} (h : Below w.heap.size w w') : LawPost w (.returned (.bool true)) w' := ⟨rfl, h⟩
theorem lawPostB {w w' : World} {b : Bool} (hb : b = true) (h : Below w.heap.size w w') : LawPost w (.returned (.bool b)) w' := ⟨by rw [hb], h⟩

/-- A slice of n one-cell elements lies at 'ao'. -/
def At (w : World) (ao : Option Addr) (n : Nat) (F : Nat → Value) : Prop :=
  n = 0 ∨ ∃ b o, ao = some ⟨b, o, none⟩ ∧ b < w.heap.size ∧ ∀ i, i < n → w.cell? ⟨b, o + i, none⟩ = some (F i)

theorem At.below {w w' : World} {ao : Option Addr} {n : Nat} {F : Nat → Value} (h : At w ao n F) (hb : Below w.heap.size w w') : At w' ao n F := by
  rcases h with h | ⟨b, o, h1, h2, h3⟩
  · exact .inl h
  · exact .inr ⟨b, o, h1, Nat.lt_of_lt_of_le h2 hb.size, fun i hi => (hb.cell (by exact h2)).trans (h3 i hi)⟩

theorem At.pos {w : World} {ao : Option Addr} {n k : Nat} {F : Nat → Value} (h : At w ao n F) (hk : k < n) :
    ∃ b o, ao = some ⟨b, o, none⟩ ∧ b < w.heap.size ∧ ∀ i, i < n → w.cell? ⟨b, o + i, none⟩ = some (F i) := by
  rcases h with h | h
  · omega
  · exact h

theorem At.congr {w : World} {ao : Option Addr} {n : Nat} {F G : Nat → Value} (h : At w ao n F) (e : ∀ i, i < n → F i = G i) : At w ao n G := by
  rcases h with h | ⟨b, o, h1, h2, h3⟩
  · exact .inl h
  · exact .inr ⟨b, o, h1, h2, fun i hi => by rw [h3 i hi, e i hi]⟩

/-- It handed back a slice of these n elements; below what was there nothing has turned. -/
def RetAt (w : World) (n : Nat) (F : Nat → Value) (e : Ending) (w' : World) : Prop :=
  ∃ ao cap, e = .returned (.slice ao n cap) ∧ n ≤ cap ∧ At w' ao n F ∧ Below w.heap.size w w'
theorem retAt {w w' : World} {n : Nat} {F : Nat → Value} {ao : Option Addr} {cap : Nat} (h1 : n ≤ cap) (h2 : At w' ao n F) (h3 : Below w.heap.size w w') :
    RetAt w n F (.returned (.slice ao n cap)) w' := ⟨ao, cap, rfl, h1, h2, h3⟩

/-- A row of the call's own. -/
theorem At.row {w : World} {b t n : Nat} {F : Nat → Value} (h : w.rowIs b t n F) : At w (some ⟨b, 0, none⟩) n F :=
  .inr ⟨b, 0, rfl, h.lt, fun i hi => by rw [Nat.zero_add]; exact h.cell hi⟩

/-- What is owned, element by element. -/
theorem At.owned {w : World} {base e n cap : Nat} {ao : Option Addr} {xs : List Value} (h : w.ownsRow base e 1 (.slice ao n cap) n xs) : At w ao n (fun i => xs.getD i undef) := by
  have h0 := h
  rcases h0.2 with ⟨hv, hn⟩ | ⟨g, cap', cur, hv, hbg, hg, hnc, hcm, hcs, htake⟩
  · exact .inl hn
  · simp only [Value.slice.injEq] at hv
    obtain ⟨rfl, _, rfl⟩ := hv
    refine .inr ⟨g, 0, rfl, (Array.getElem?_eq_some_iff.1 hg).1, fun i hi => ?_⟩
    rw [Nat.zero_add, h.cellAt i (by omega)]
    have hl : xs.length = n := by simpa using h.1
    simp [List.getD, hl, hi]

/-- A store into a row that is filled from the left. -/
theorem fill_step {wr : World} {b t n k : Nat} {S F : Nat → Value} (hr : wr.rowIs b t n F) (hF : ∀ i, i < k → F i = S i) :
    ∃ F', (wr.setCell ⟨b, k, none⟩ (S k)).rowIs b t n F' ∧ ∀ i, i < k + 1 → F' i = S i := by
  refine ⟨_, hr.set k _, fun i hi => ?_⟩
  by_cases e : i = k
  · simp [e]
  · simp only [if_neg e]
    exact hF i (by omega)

end Go.Proofs.Qxb6003369a
