/-
  'Rows.FnFloorMatchesCountedRecurrenceModelSaid', proved.
-/
import Derived.Test.Qxb6603689aLaw3
import Derived.ProofKit
import Derived.ChangeOld
import Derived.OpenShut
namespace Go.Proofs.Qxb6603689a
open Go.ChangeShapes Go.WideShapes Go.ChangeAt Go.RowKit

/-- A slice of bytes that came in, as the walks want it. -/
theorem bytes_in {H : Type} {enc : TypeId × Value → H} {W : World} {a0 : Option Addr} {len0 cap0 : Nat} {d0 : DataW H} {p0 : List MemPlace}
    (h0 : DataW.Trod enc Try.prog W 0 (fun _ => true) true 22 (.slice a0 len0 cap0) d0 p0) (lt0 : ∀ x ∈ p0, x.block < W.heap.size) :
    ∃ S : Nat → Nat, At W a0 len0 (fun i => .int .u8 (S i : Int)) ∧ (∀ i, i < len0 → S i < 256) ∧ len0 ≤ maxLen := by
  obtain ⟨fuel, hf⟩ := h0
  rcases open_ints Try.underlying22 Try.underlying5 cells5 hf with ⟨hcs, _⟩ | ⟨x, l, c, zs, hcs, _, hl, hm, hz, hx, hcell, hwz⟩
  · simp [Value.cells] at hcs
    obtain ⟨rfl, rfl, rfl⟩ := hcs
    exact ⟨fun _ => 0, .inl rfl, fun _ _ => by omega, by unfold maxLen; omega⟩
  · simp [Value.cells] at hcs
    obtain ⟨rfl, rfl, rfl⟩ := hcs
    simp only [Prod.mk.injEq] at hx
    obtain ⟨_, rfl⟩ := hx
    simp only [if_true] at hz
    refine ⟨fun i => (zs.getD i 0).toNat, ?_, fun i hi => ?_, by omega⟩
    · by_cases h0 : len0 = 0
      · exact .inl h0
      · obtain ⟨b, off, spot⟩ := x
        have hspot : spot = none := by simpa [Addr.add] using World.cell?_spot (hcell 0 (by omega))
        subst hspot
        refine .inr ⟨b, off, rfl, lt0 (.cell b off) (MemPlace.mem_row.2 ⟨0, by omega, by simp⟩), fun i hi => ?_⟩
        have hr := range_u8 hwz i
        have e : (((zs.getD i 0).toNat : Nat) : Int) = zs.getD i 0 := by rw [List.getD_eq_getElem?_getD]; omega
        show W.cell? _ = some (Value.int IntKind.u8 (((zs.getD i 0).toNat : Nat) : Int))
        rw [e, ← add_plain]
        exact hcell i (by omega)
    · have hr := range_u8 hwz i
      simp only [List.getD_eq_getElem?_getD]
      omega

set_option maxRecDepth 100000 in
theorem lifted3 (os : Os) (started : os.Started) (H : Type) (enc : TypeId × Value → H) :
    ReturnsInHanded {} Try.checked os 3 .any (Rows.fnFloorMatchesCountedRecurrenceModelSpec.pre6 enc Try.prog Try.f3 Rows.fnFloorMatchesCountedRecurrenceModelRow.domain false) (Rows.fnFloorMatchesCountedRecurrenceModelSpec.post enc Try.prog Try.f3 false true false false) := by
  refine returnsInHanded_of_change (C := Try.checked) own started (by kernel_rfl) Try.func3
    (ChangeSpec.witness6 (enc := enc) (C := Try.checked) false ⟨#[], #[.slice none 0 0], []⟩ 8 (by kernel_rfl) (by kernel_rfl) (by kernel_rfl) (by kernel_rfl)) ?_
  intro W base args ds gs before hval0 hW hcnd _
  have hval : ∀ (j : Nat) t v, Try.f3.params[j]? = some t → args[j]? = some v → Value.okWide Try.prog W .any base t v := hval0
  have hW' := hW
  obtain ⟨p, q, hA0, hV, rfl, hfz, hnd⟩ := hW
  have hA : DataW.TrodAll enc Try.prog W 0 (fun _ => true) true Try.f3.params.toList args.toList ds p := hA0
  rw [Try.params3] at hA hval
  obtain ⟨v0, vs0, d0, ds0, p0, q0, hargs, rfl, rfl, h0, r0⟩ := trodAll_cons hA
  obtain ⟨rfl, rfl, rfl⟩ := trodAll_nil r0
  obtain rfl : args = #[v0] := by cases args; simp_all
  obtain ⟨rfl, rfl⟩ := trodVars_none hV
  obtain ⟨a0, len0, cap0, rfl⟩ := okWide_slice Try.underlying22 (hval 0 22 v0 rfl rfl)
  have k0 := h0
  have lt0 : ∀ x ∈ p0, x.block < W.heap.size := by obtain ⟨m, hm⟩ := k0; exact DataW.trod_lt m _ _ _ hm
  obtain ⟨S, hS, hS2, hlen⟩ := bytes_in h0 lt0
  clear hA0 hval0
  refine (law3 a0 len0 cap0 S W hS hS2 hlen).mono fun e W' ⟨he, bel⟩ => ?_
  subst he
  exact ⟨_, rfl, _, _, _, [], _, [], hW', trodAll_mk1 (shut_bool Try.underlying4 _), (trodAll_cons_mk (Below.trod laidOut (by kernel_rfl) (of_decide_eq_true (by kernel_rfl)) k0 bel lt0) trodAll_mk0), rfl, bel.frame _, fun h => by cases h⟩

theorem fnFloorMatchesCountedRecurrenceModel_proved : Rows.FnFloorMatchesCountedRecurrenceModelSaid :=
  OpenClaim.holds_of_wide 3 Try.f3 rfl rfl rfl rfl rfl rfl rfl ⟨rfl, rfl, rfl, rfl, rfl⟩ rfl rfl rfl rfl rfl (by kernel_rfl) Try.func3 (by kernel_rfl)
    (of_decide_eq_true (by kernel_rfl)) (by unfold Func.isWrapper; first | (rw [if_pos (by decide +kernel)]; kernel_rfl) | (rw [if_neg (by decide +kernel)]; exact ⟨rfl, rfl⟩))
    (fun os started H enc _ => lifted3 os started H enc)
end Go.Proofs.Qxb6603689a
