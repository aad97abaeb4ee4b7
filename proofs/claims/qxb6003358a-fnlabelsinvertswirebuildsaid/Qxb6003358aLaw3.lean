/-
  The walk of 'FnLabelsInvertsWireBuild'.
-/
import Derived.Test.Qxb6003358aLabels
namespace Go.Proofs.Qxb6003358a
open Go.RowKit

set_option maxHeartbeats 1000000 in
theorem law3 (ao : Option Addr) (n cap : Nat) (S : Nat → ByteArray) (w : World) (h : StrsAt w ao n S) (hn : n ≤ maxLen) (hS : ∀ i, (S i).size ≤ maxLen) :
    Calls Try.prog 3 #[.slice ao n cap] w fun e w' => LawPost w e w' := by
  go_enter Try.func3, Try.ntmps3
  go_wp2_with fail
  refine (zz6 ao n cap S _ h hn hS).mono ?_
  rintro e w' ⟨⟨b, rfl⟩, hw'⟩
  subst hw'
  cases b with
  | false =>
    go_wp2
    go_ret
    exact lawPost (Below.refl _ _)
  | true =>
    by_cases h65 : n ≤ 65536
    · go_wp2_with fail
      refine (lb7 ao n cap S _ h hn).mono ?_
      rintro e w'' ⟨⟨z, rfl⟩, hw'⟩
      subst hw'
      by_cases hz : z ≤ 1048576
      · go_wp2_with fail
        refine (clone8 ao n cap S _ h h65).mono ?_
        rintro e w1 ⟨ao1, cap1, rfl, hcap1, hs1, hb1⟩
        clear h
        go_wp2_with fail
        refine (build9 ao1 n cap1 S _ hs1 hn (fun i _ => hS i)).mono ?_
        rintro e w2 ⟨hb2, (⟨hG, rfl⟩ | ⟨_, rfl⟩)⟩
        · have hs2 := hs1.below hb2
          have hB : Below w''.heap.size w'' w2 := hb1.trans (hb2.mono hb1.size)
          clear hs1 hb1 hb2
          go_wp2_with fail
          refine (name10 (wireOf n S) w2).mono ?_
          rintro e w3 ⟨rfl, hw3⟩
          subst hw3
          go_wp2_with fail
          have hb3 : Below w2.heap.size w2 ((w2.alloc (.cells #[.string (wireOf n S)] 29)).alloc (.cells #[.string (wireOf n S)] 29)) := ((Below.refl _ _).alloc (Nat.le_refl _) _).alloc (by simp) _
          refine (labels11 n S (wireOf n S) rfl hG _).mono ?_
          rintro e w4 ⟨ao4, cap4, rfl, hcap4, hs4, hb4⟩
          have hb5 : Below w2.heap.size w2 w4 := hb3.trans (hb4.mono (by simp; omega))
          have hs5 := hs2.below hb5
          have hB5 : Below w''.heap.size w'' w4 := hB.trans (hb5.mono hB.size)
          clear hs2 hb3 hb4 hb5 hB
          have HG : Hid (Good n S) := hG
          clear hG
          unfold maxLen at hn
          go_wp2
          go_loopg [7] n (fun gk i wr => ∃ k : Nat, k + gk = n ∧ i = .int .i64 k ∧ Below w4.heap.size w4 wr)
          case atStart => exact ⟨0, by omega, rfl, Below.refl _ _⟩
          case round =>
            obtain ⟨k, hk, rfl, hnx⟩ := hrel
            by_cases hlt : k < n
            · obtain ⟨b4, o4, ha4, hl4, hc4⟩ := (hs4.below hnx).pos hlt
              obtain ⟨b5, o5, ha5, hl5, hc5⟩ := (hs5.below hnx).pos hlt
              subst ha4 ha5
              have hc4k := hc4 k hlt
              have hc5k := hc5 k hlt
              have hlt' : (k : Int) < (n : Int) := by omega
              have HK : Hid (k + gk = n) := hk
              clear hk hc4 hc5 hs4 hs5
              go_wp2
              go_quiet (fail)
              go_wp2
              go_roundg (gk - 1)
              case measure => have := HK.out; omega
              case rel => exact ⟨k + 1, by have := HK.out; omega, by go_num, below_drewN hnx _⟩
            · have hs6 := hs4.below hnx
              have hB6 : Below w''.heap.size w'' wr := hB5.trans (hnx.mono hB5.size)
              clear hs4 hs5
              go_wp2_with fail
              refine (build9 ao4 n cap4 S _ hs6 (by unfold maxLen; omega) (fun i _ => hS i)).mono ?_
              rintro e w7 ⟨hb7, (⟨hG, rfl⟩ | ⟨hG, rfl⟩)⟩
              · have hB7 : Below w''.heap.size w'' w7 := hB6.trans (hb7.mono hB6.size)
                clear hb7 hs6
                go_wp2
                go_ret
                exact lawPost hB7
              · exact absurd HG.out hG
        · have hB : Below w''.heap.size w'' w2 := hb1.trans (hb2.mono hb1.size)
          go_wp2
          go_ret
          exact lawPost hB
      · go_wp2
        go_ret
        exact lawPost (Below.refl _ _)
    · go_wp2
      go_ret
      exact lawPost (Below.refl _ _)

end Go.Proofs.Qxb6003358a
