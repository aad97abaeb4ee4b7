/-
  The walk of 'FnNewKMPBackIsLongestBorder'.
-/
import Derived.Test.Qxb6003369aKmpNew
import Derived.Deep.RegionWith
import Derived.Deep.DeepCutAuto
namespace Go.Proofs.Qxb6003369a
open Go.RowKit

set_option maxHeartbeats 2000000 in
theorem law5 (ao : Option Addr) (n cap : Nat) (P : Nat → Int) (w : World) (h : IAt w ao n P) (hn : n ≤ maxLen) :
    Calls Try.prog 5 #[.slice ao n cap] w fun e w' => LawPost w e w' := by
  go_enter Try.func5, Try.ntmps5
  go_wp2_with fail
  refine (zz13 ao n cap _ hn).mono ?_
  rintro e w' ⟨⟨b, rfl⟩, hw'⟩
  subst hw'
  rename World => w0
  cases b with
  | false =>
    go_wp2
    go_ret
    exact lawPost (Below.refl _ _)
  | true =>
    by_cases h256 : n ≤ 256
    · clear hn
      go_wp2_with fail
      refine (clone14 ao n cap P _ h (by omega)).mono ?_
      rintro e w1 ⟨ao1, cap1, rfl, hcap1, hp1, hb1⟩
      clear h
      go_wp2_with fail
      refine (back15 ao1 n cap1 P w1 hp1 h256).mono ?_
      rintro e w2 ⟨ao2, cap2, rfl, hcap2, hk2, hb2⟩
      have hp2 := hp1.below hb2
      have hB2 : Below w0.heap.size w0 w2 := hb1.trans (hb2.mono hb1.size)
      clear hp1 hb1 hb2
      go_wp2_with fail
      go_loopg [4] n (fun gk si wr => ∃ i : Nat, i + gk = n ∧ si = .int .i64 i ∧ Below w2.heap.size w2 wr)
      case atStart => exact ⟨0, by omega, rfl, Below.refl _ _⟩
      case round =>
        rename World => wi
        obtain ⟨i, hi, rfl, hnx⟩ := hrel
        have HI : Hid (i + gk = n) := hi
        clear hi
        by_cases hlt : i < n
        · obtain ⟨b2, o2, ha2, hl2, hc2⟩ := hk2.pos hlt
          subst ha2
          obtain ⟨b1, o1, ha1, hl1, hc1⟩ := hp2.pos hlt
          subst ha1
          have g2 : ∀ wx, Below w2.heap.size w2 wx → wx.cell? ⟨b2, o2 + i, none⟩ = some (.int .i64 (lb P i : Int)) := fun wx hx => (hx.cell (by exact hl2)).trans (hc2 i hlt)
          have HG : Hid (∀ wx, Below w2.heap.size w2 wx → wx.cell? ⟨b2, o2 + i, none⟩ = some (.int .i64 (lb P i : Int))) := g2
          have g2i := g2 wi hnx
          have q1 : (i : Int) < n := by omega
          have HL : Hid (∀ wx, Below w2.heap.size w2 wx → Calls Try.prog 16 #[.slice (some ⟨b1, o1, none⟩) n cap1, .int .i64 i] wx fun e w' => RetI wx (lb P i) e w') :=
            fun wx hx => lb16 b1 o1 n cap1 P i wx (Nat.lt_of_lt_of_le hl1 hx.size) (fun x hxn => (hx.cell (by exact hl1)).trans (hc1 x hxn)) hlt h256
          clear g2 hc1 hc2
          go_upto_region 12 with fail
          go_cut [33] (fun c wx => c = .bool false ∧ Below w2.heap.size w2 wx)
          case first =>
            go_region_with (go_at_call 16; refine (HL.out _ (hnx.drew)).mono ?_; rintro e wA ⟨rfl, hbA⟩; have hBA : Below w2.heap.size w2 wA := hnx.drew.trans (hbA.mono hnx.size); have g2A := HG.out wA hBA)
            all_goals
              go_wp2_with fail
              go_meet
              exact ⟨rfl, hBA⟩
          case rest =>
            obtain ⟨rfl, hBc⟩ := hcut
            go_wp2_with fail
            go_roundg (gk - 1)
            case measure => have := HI.out; omega
            case rel => exact ⟨i + 1, by have := HI.out; omega, by go_num, hBc⟩
        · go_wp2_with fail
          go_ret
          exact lawPost (hB2.trans (hnx.mono hB2.size))
    · go_wp2
      go_ret
      exact lawPost (Below.refl _ _)

end Go.Proofs.Qxb6003369a
