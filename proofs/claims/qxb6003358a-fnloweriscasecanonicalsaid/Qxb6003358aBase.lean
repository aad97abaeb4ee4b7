/-
  Common ground of this seat's walks: the type tables' rows, and how a slice of strings lies in memory.
-/
import Derived.Test.Qxb6003358aRows
import Derived.WalkKit
import Derived.WalkSpells
import Derived.WalkLawsBesides
import Derived.Deep.QuietTactic
import Derived.BigQuiet
import Derived.Deep.OwnRows
import Derived.Deep.RegionLaw
import Derived.Deep.LoopGhost
import Derived.Lib.SliceRun
namespace Go.Proofs.Qxb6003358a
open Go.RowKit

theorem own : ownKnob Try.prog.godebug = none := by kernel_rfl
theorem laidOut : laidOutB Try.prog = true := by kernel_rfl
theorem cells9 : Try.prog.cellsOf 9 = 1 := by kernel_rfl
theorem info9 : (Try.prog.info? 9).map (fun i => (i.zero, i.size, i.bytes)) = some (some (.string ByteArray.empty), 1, 16) := by kernel_rfl
theorem info5 : (Try.prog.info? 5).map (fun i => (i.zero, i.size, i.bytes)) = some (some (.int .u8 0), 1, 1) := by kernel_rfl

/-- It returned some bool. -/
def RetBool (e : Ending) : Prop := ∃ b, e = .returned (.bool b)
theorem retBool (b : Bool) : RetBool (.returned (.bool b)) := ⟨b, rfl⟩
/-- It returned some int. -/
def RetInt (e : Ending) : Prop := ∃ n, e = .returned (.int .i64 n)
theorem retInt (n : Int) : RetInt (.returned (.int .i64 n)) := ⟨n, rfl⟩

/-- What a law leaves: it returned true, and nothing that was there has turned. -/
def LawPost (w : World) (e : Ending) (w' : World) : Prop := e = .returned (.bool true) ∧ Below w.heap.size w w'
theorem lawPost {w w' : World} (h : Below w.heap.size w w') : LawPost w (.returned (.bool true)) w' := ⟨rfl, h⟩

/-- A slice of n strings lies at 'ao': it is empty, or string i stands in cell i behind the address. -/
def StrsAt (w : World) (ao : Option Addr) (n : Nat) (S : Nat → ByteArray) : Prop :=
  n = 0 ∨ ∃ b o, ao = some ⟨b, o, none⟩ ∧ b < w.heap.size ∧ ∀ i, i < n → w.cell? ⟨b, o + i, none⟩ = some (.string (S i))

/-- What lies below block number B stays. -/
theorem StrsAt.below {w w' : World} {ao : Option Addr} {n : Nat} {S : Nat → ByteArray} (h : StrsAt w ao n S) (hb : Below w.heap.size w w') : StrsAt w' ao n S := by
  rcases h with h | ⟨b, o, h1, h2, h3⟩
  · exact .inl h
  · exact .inr ⟨b, o, h1, Nat.lt_of_lt_of_le h2 hb.size, fun i hi => (hb.cell (by exact h2)).trans (h3 i hi)⟩

theorem StrsAt.pos {w : World} {ao : Option Addr} {n k : Nat} {S : Nat → ByteArray} (h : StrsAt w ao n S) (hk : k < n) :
    ∃ b o, ao = some ⟨b, o, none⟩ ∧ b < w.heap.size ∧ ∀ i, i < n → w.cell? ⟨b, o + i, none⟩ = some (.string (S i)) := by
  rcases h with h | h
  · omega
  · exact h

/-- It handed back a slice of these n strings; below what was there nothing has turned. -/
def RetStrs (w : World) (n : Nat) (S : Nat → ByteArray) (e : Ending) (w' : World) : Prop :=
  ∃ ao cap, e = .returned (.slice ao n cap) ∧ n ≤ cap ∧ StrsAt w' ao n S ∧ Below w.heap.size w w'
theorem retStrs {w w' : World} {n : Nat} {S : Nat → ByteArray} {ao : Option Addr} {cap : Nat} (h1 : n ≤ cap) (h2 : StrsAt w' ao n S) (h3 : Below w.heap.size w w') :
    RetStrs w n S (.returned (.slice ao n cap)) w' := ⟨ao, cap, rfl, h1, h2, h3⟩

/-- A row whose cells hold these strings. -/
theorem StrsAt.row {w : World} {b n : Nat} {S : Nat → ByteArray} (h : w.rowIs b 9 n (fun i => .string (S i))) : StrsAt w (some ⟨b, 0, none⟩) n S :=
  .inr ⟨b, 0, rfl, h.lt, fun i hi => by rw [Nat.zero_add]; exact h.cell hi⟩

end Go.Proofs.Qxb6003358a
