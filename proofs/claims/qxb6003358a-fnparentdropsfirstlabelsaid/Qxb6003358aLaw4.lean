/-
  The walk of 'FnParentDropsFirstLabel'.
-/
import Derived.Test.Qxb6003358aNames
import Derived.Deep.DeepCutAuto
import Derived.Deep.RegionWith
namespace Go.Proofs.Qxb6003358a
open Go.RowKit

set_option maxHeartbeats 400000 in
/-- 'zzBytes_FnParentDropsFirstLabel': it reads, and answers some bool. -/
theorem zz12 (ao : Option Addr) (n cap : Nat) (S : Nat → ByteArray) (w : World) (h : StrsAt w ao n S) (hn : n ≤ maxLen) (hS : ∀ i, (S i).size ≤ maxLen) :
    Calls Try.prog 12 #[.slice ao n cap] w fun e w' => RetBool e ∧ w' = w := by
  unfold maxLen at hn hS
  by_cases h1 : n ≤ 1048576
  · rcases h with h | ⟨b, o, rfl, hb, hc⟩
    · subst h
      go_enter Try.func12, Try.ntmps12
      go_wp2
      refine wp_loop_rounds 1 ?_
      rw [rounds_succ]
      go_wp2
      go_ret
      exact ⟨retBool _, rfl⟩
    · go_enter Try.func12, Try.ntmps12
      go_wp2
      go_loop [3, 4] (fun t i => ∃ (k : Nat) (z : Int), k ≤ n ∧ i = .int .i64 k ∧ t = .int .i64 z ∧ 0 ≤ z ∧ z ≤ 1048576) (fun _ i => n - (intOf i).toNat)
      case atStart => exact ⟨0, n, Nat.zero_le _, rfl, rfl, by omega, by omega⟩
      case round =>
        obtain ⟨k, z, hk, rfl, rfl, hz0, hz1⟩ := hrel
        by_cases hlt : k < n
        · have hck := hc k hlt
          have hsk := hS k
          clear hc hS
          go_wp2
          all_goals first
            | (go_ret; exact ⟨retBool _, rfl⟩)
            | (go_round
               case rel => exact ⟨k + 1, z + (S k).size, by omega, by go_num, rfl, by omega, by omega⟩
               case measure => simp [intOf]; omega)
        · go_wp2
          go_ret
          exact ⟨retBool _, rfl⟩
  · go_enter Try.func12, Try.ntmps12
    go_wp2
    go_ret
    exact ⟨retBool _, rfl⟩

/-- The rest of a slice of strings. -/
theorem StrsAt.rest {w : World} {b o m : Nat} {S : Nat → ByteArray} (h : ∀ i, i < m + 1 → w.cell? ⟨b, o + i, none⟩ = some (.string (S i))) (hb : b < w.heap.size) : StrsAt w (some ⟨b, o + 1, none⟩) m (sh S) :=
  .inr ⟨b, o + 1, rfl, hb, fun i hi => by rw [show o + 1 + i = o + (i + 1) by omega]; exact h (i + 1) (by omega)⟩

/-- What the law's own variables hold from the second step on: the name, its parent, the root. -/
structure Kp (w0 : World) (B5 B6 B7 : Nat) (s5 s6 : ByteArray) (w : World) : Prop where
  c5 : w.cell? ⟨B5, 0, none⟩ = some (.string s5)
  c6 : w.cell? ⟨B6, 0, none⟩ = some (.string s6)
  c7 : w.cell? ⟨B7, 0, none⟩ = some (.string ⟨#[]⟩)
  l5 : B5 < w.heap.size
  l6 : B6 < w.heap.size
  l7 : B7 < w.heap.size
  bel : Below w0.heap.size w0 w

theorem Kp.next {w0 : World} {B5 B6 B7 : Nat} {s5 s6 : ByteArray} {w w' : World} (h : Kp w0 B5 B6 B7 s5 s6 w) (hb : Below w.heap.size w w') : Kp w0 B5 B6 B7 s5 s6 w' :=
  ⟨(hb.cell (p := ⟨B5, 0, none⟩) h.l5).trans h.c5, (hb.cell (p := ⟨B6, 0, none⟩) h.l6).trans h.c6, (hb.cell (p := ⟨B7, 0, none⟩) h.l7).trans h.c7,
    Nat.lt_of_lt_of_le h.l5 hb.size, Nat.lt_of_lt_of_le h.l6 hb.size, Nat.lt_of_lt_of_le h.l7 hb.size, h.bel.trans (hb.mono h.bel.size)⟩

theorem Kp.setCell {w0 : World} {B5 B6 B7 : Nat} {s5 s6 : ByteArray} {w : World} (h : Kp w0 B5 B6 B7 s5 s6 w) {B : Nat} (h5 : B5 < B) (h6 : B6 < B) (h7 : B7 < B) (h0 : w0.heap.size ≤ B) (v : Value) : Kp w0 B5 B6 B7 s5 s6 (w.setCell ⟨B, 0, none⟩ v) := by
  have ne : ∀ b, b < B → (⟨B, 0, none⟩ : Addr) ≠ ⟨b, 0, none⟩ := fun b hb e => by injection e with e1 _ _; omega
  exact ⟨(World.cell?_setCell_other w _ _ _ (ne _ h5)).trans h.c5, (World.cell?_setCell_other w _ _ _ (ne _ h6)).trans h.c6, (World.cell?_setCell_other w _ _ _ (ne _ h7)).trans h.c7,
    by simpa [World.setCell] using h.l5, by simpa [World.setCell] using h.l6, by simpa [World.setCell] using h.l7, h.bel.setCell h0 v⟩

theorem kp_start {w0 w4 : World} {B : Nat} {s X : ByteArray} (hB : Below w0.heap.size w0 w4) (hz : B < w4.heap.size) (hc : w4.cell? ⟨B, 0, none⟩ = some (.string s)) :
    Kp w0 B w4.heap.size (w4.heap.size + 1) s X ((w4.alloc (.cells #[.string X] 29)).alloc (.cells #[.string ⟨#[]⟩] 29)) := by
  refine ⟨Lib.cell?_alloc_some _ (Lib.cell?_alloc_some _ hc), Lib.cell?_alloc_some _ (by simp), ?_, by simp; omega, by simp; omega, by simp, (hB.alloc hB.size _).alloc (by simp; have := hB.size; omega) _⟩
  have e : (w4.alloc (.cells #[.string X] 29)).heap.size = w4.heap.size + 1 := by simp
  rw [← e]
  simp

set_option maxRecDepth 100000 in
set_option maxHeartbeats 4000000 in
theorem law4 (ao : Option Addr) (n cap : Nat) (S : Nat → ByteArray) (w : World) (h : StrsAt w ao n S) (hn : n ≤ maxLen) (hS : ∀ i, (S i).size ≤ maxLen) :
    Calls Try.prog 4 #[.slice ao n cap] w fun e w' => LawPost w e w' := by
  go_enter Try.func4, Try.ntmps4
  go_wp2_with fail
  refine (zz12 ao n cap S _ h hn hS).mono ?_
  rintro e w' ⟨⟨b, rfl⟩, hw'⟩
  subst hw'
  cases b with
  | false =>
    go_wp2
    go_ret
    exact lawPost (Below.refl _ _)
  | true =>
    by_cases h65 : n ≤ 65536
    · go_wp2_with fail
      refine (lb7 ao n cap S _ h hn).mono ?_
      rintro e w'' ⟨⟨z, rfl⟩, hw'⟩
      subst hw'
      by_cases hz : z ≤ 1048576
      · go_wp2_with fail
        refine (clone8 ao n cap S _ h h65).mono ?_
        rintro e w1 ⟨ao1, cap1, rfl, hcap1, hs1, hb1⟩
        clear h
        go_wp2_with fail
        refine (build9 ao1 n cap1 S _ hs1 hn (fun i _ => hS i)).mono ?_
        rintro e w2 ⟨hb2, (⟨hG, rfl⟩ | ⟨_, rfl⟩)⟩
        · have hs2 := hs1.below hb2
          have hB : Below w''.heap.size w'' w2 := hb1.trans (hb2.mono hb1.size)
          clear hs1 hb1 hb2
          go_wp2_with fail
          refine (name10 (wireOf n S) w2).mono ?_
          rintro e w3 ⟨rfl, hw3⟩
          subst hw3
          go_wp2_with fail
          have hb3 : Below w2.heap.size w2 ((w2.alloc (.cells #[.string (wireOf n S)] 29)).alloc (.cells #[.string (wireOf n S)] 29)) := ((Below.refl _ _).alloc (Nat.le_refl _) _).alloc (by simp) _
          by_cases hn0 : n = 0
          · have e0 : wireOf n S = ⟨#[]⟩ := by rw [hn0]; rfl
            rw [e0] at hb3 ⊢
            refine (parent13e _).mono ?_
            rintro e w4 ⟨rfl, hb4⟩
            have hb5 : Below w2.heap.size w2 w4 := hb3.trans (hb4.mono (by simp; omega))
            have hB5 : Below w''.heap.size w'' w4 := hB.trans (hb5.mono hB.size)
            have hz4 : w2.heap.size + 1 < w4.heap.size := by have := hb4.size; simp at this; omega
            have hc5 : ∀ A B, ((w4.alloc A).alloc B).cell? ⟨w2.heap.size + 1, 0, none⟩ = some (.string ⟨#[]⟩) := fun A B => Lib.cell?_alloc_some B (Lib.cell?_alloc_some A ((hb4.cell (p := ⟨w2.heap.size + 1, 0, none⟩) (by simp)).trans (by simp)))
            have hn1 : n ≤ 0 := by omega
            clear hn0 hb3 hb4 hb5 hs2 hB hG e0 hn
            go_wp2
            go_ret
            exact lawPost ((hB5.alloc hB5.size _).alloc (by simp; have := hB5.size; omega) _)
          · have hn1 : 1 ≤ n := by omega
            refine (parent13 n S hn1 hG _).mono ?_
            rintro e w4 ⟨rfl, hb4⟩
            have hb5 : Below w2.heap.size w2 w4 := hb3.trans (hb4.mono (by simp; omega))
            have hB5 : Below w''.heap.size w'' w4 := hB.trans (hb5.mono hB.size)
            have hz4 : w2.heap.size + 1 < w4.heap.size := by have := hb4.size; simp at this; omega
            have hc5 : w4.cell? ⟨w2.heap.size + 1, 0, none⟩ = some (.string (wireOf n S)) := (hb4.cell (p := ⟨w2.heap.size + 1, 0, none⟩) (by simp)).trans (by simp)
            have hs4 := hs2.below hb5
            clear hb3 hb4 hb5 hs2 hB
            unfold maxLen at hn
            obtain ⟨b1, o1, ha1, hl1, hcl⟩ := hs4.pos (show 0 < n by omega)
            subst ha1
            clear hs4
            have hK4 : ∀ X, Kp w'' (w2.heap.size + 1) w4.heap.size (w4.heap.size + 1) (wireOf n S) X ((w4.alloc (.cells #[.string X] 29)).alloc (.cells #[.string ⟨#[]⟩] 29)) := fun X => kp_start hB5 hz4 hc5
            have hl4 : ∀ X, ∀ i, i < n → ((w4.alloc (.cells #[.string X] 29)).alloc (.cells #[.string ⟨#[]⟩] 29)).cell? ⟨b1, o1 + i, none⟩ = some (.string (S i)) := fun X i hi => Lib.cell?_alloc_some _ (Lib.cell?_alloc_some _ (hcl i hi))
            clear hcl
            have hG' : Good (n - 1) (sh S) := good_sh (m := n - 1) (by rw [show n - 1 + 1 = n by omega]; exact hG)
            have HG : Hid (Good n S ∧ Good (n - 1) (sh S)) := ⟨hG, hG'⟩
            clear hG hG' hc5
            go_upto_region 16 with fail
            go_cut [8, 9] (fun s8 s9 wx => s8 = .string (wireOf (n - 1) (sh S)) ∧ s9 = .bool true ∧ Kp w'' (w2.heap.size + 1) w4.heap.size (w4.heap.size + 1) (wireOf n S) (wireOf (n - 1) (sh S)) wx ∧ StrsAt wx (some ⟨b1, o1, none⟩) n S)
            case first =>
              by_cases hcp : cap1 ≤ 1
              all_goals
                go_wp2_with fail
                refine (build9 _ (n - 1) _ (sh S) _ (by first | exact .inl (by omega) | exact StrsAt.rest (fun i hi => hl4 _ i (by omega)) (by simp; omega)) (by unfold maxLen; omega) (fun i _ => hS (i + 1))).mono ?_
                rintro e w5 ⟨hb5, (⟨_, rfl⟩ | ⟨hno, rfl⟩)⟩
                · have hK5 := (hK4 _).next hb5
                  have hl5 : StrsAt w5 (some ⟨b1, o1, none⟩) n S := StrsAt.below (.inr ⟨b1, o1, rfl, by simp; omega, hl4 _⟩) hb5
                  go_wp2_with fail
                  go_meet
                  exact ⟨rfl, rfl, hK5, hl5⟩
                · exact absurd HG.out.2 hno
            case rest =>
              obtain ⟨rfl, rfl, hK5, hl5⟩ := hcut
              clear hK4 hl4 hB5 hz4 hl1
              have c6 := hK5.c6
              have c6a : ∀ A, (wc.alloc A).cell? ⟨w4.heap.size, 0, none⟩ = some (.string (wireOf (n - 1) (sh S))) := fun A => Lib.cell?_alloc_some _ c6
              go_upto_region 19 with fail
              go_cut [59] (fun c wx => c = .bool false ∧ Kp w'' (w2.heap.size + 1) w4.heap.size (w4.heap.size + 1) (wireOf n S) (wireOf (n - 1) (sh S)) wx ∧ StrsAt wx (some ⟨b1, o1, none⟩) n S)
              case first =>
                go_region_with (go_at_call 10; refine (name10 _ _).mono ?_; rintro e w6 ⟨rfl, rfl⟩)
                all_goals
                  go_wp2_with fail
                  go_meet
                  exact ⟨rfl, hK5.next ((Below.refl _ _).alloc (Nat.le_refl _) _).drew, hl5.below ((Below.refl _ _).alloc (Nat.le_refl _) _).drew⟩
              case rest =>
                obtain ⟨rfl, hK6, hl6⟩ := hcut
                clear hK5 hl5 c6 c6a
                have c6 := hK6.c6
                go_wp2_with fail
                refine (labels11 (n - 1) (sh S) _ rfl HG.out.2 _).mono ?_
                rintro e w7 ⟨ao7, cap7, rfl, hcap7, hs7, hb7⟩
                have hK7 := hK6.next hb7
                have hl7 := hl6.below hb7
                clear hK6 hl6 hb7 c6
                go_wp2
                go_loopg [11] (n - 1) (fun gk i wr => ∃ k : Nat, k + gk = n - 1 ∧ i = .int .i64 k ∧ Kp w'' (w2.heap.size + 1) w4.heap.size (w4.heap.size + 1) (wireOf n S) (wireOf (n - 1) (sh S)) wr ∧ StrsAt wr ao7 (n - 1) (sh S) ∧ StrsAt wr (some ⟨b1, o1, none⟩) n S)
                case atStart => exact ⟨0, by omega, rfl, hK7, hs7, hl7⟩
                case round =>
                  obtain ⟨k, hk, rfl, hK8, hs8, hl8⟩ := hrel
                  clear hK7 hs7 hl7
                  by_cases hlt : k < n - 1
                  · obtain ⟨b8, o8, ha8, hb8, hc8⟩ := hs8.pos hlt
                    subst ha8
                    obtain ⟨_, _, ha9, hb9, hc9⟩ := hl8.pos (show 0 < n by omega)
                    simp only [Option.some.injEq, Addr.mk.injEq, and_true] at ha9
                    obtain ⟨rfl, rfl⟩ := ha9
                    have hc8k : wr.cell? ⟨b8, o8 + k, none⟩ = some (.string (S (k + 1))) := hc8 k hlt
                    have hc9k := hc9 (k + 1) (by omega)
                    have e1 := wrapI ((k : Int) + 1) (by omega) (by omega)
                    have t1 : ((k : Int) + 1).toNat = k + 1 := by omega
                    have q0 : (0 : Int) ≤ (k : Int) + 1 := by omega
                    have q1 : (k : Int) + 1 < (n : Int) := by omega
                    have q2 : (k : Int) < ((n - 1 : Nat) : Int) := by omega
                    have HK : Hid (k + gk = n - 1) := hk
                    clear hk hc8 hc9
                    go_wp2
                    go_quiet (fail)
                    go_wp2
                    go_roundg (gk - 1)
                    case measure => have := HK.out; omega
                    case rel => exact ⟨k + 1, by have := HK.out; omega, by go_num, hK8.next (below_drewN (Below.refl _ _) _), hs8.below (below_drewN (Below.refl _ _) _), hl8.below (below_drewN (Below.refl _ _) _)⟩
                  · clear hs8 hl8 hk
                    have c5 := hK8.c5
                    have c6 := hK8.c6
                    go_upto_region 29 with fail
                    go_cut [89] (fun c wx => c = .bool false ∧ Kp w'' (w2.heap.size + 1) w4.heap.size (w4.heap.size + 1) (wireOf n S) (wireOf (n - 1) (sh S)) wx)
                    case first =>
                      go_region_with (first | (go_at_call_of 14 (wireOf n S); refine (lower14w n S HG.out.1 _).mono ?_; rintro e wA ⟨rfl, hbA⟩; have hKA := (hK8.next (Below.refl _ _).drew).next hbA; have c5A := hKA.c5; have c6A := hKA.c6) | (go_at_call 13; refine (parent13l n S hn1 HG.out.1 _).mono ?_; rintro e wB ⟨rfl, hbB⟩; have hKB := hKA.next hbB; have c5B := hKB.c5; have c6B := hKB.c6) | (go_at_call 14; refine (lower14w (n - 1) (sh S) HG.out.2 _).mono ?_; rintro e wC ⟨rfl, hbC⟩; have hKC := hKB.next hbC))
                      all_goals
                        go_wp2_with fail
                        go_meet
                        exact ⟨rfl, hKC⟩
                    case rest =>
                      obtain ⟨rfl, hK9⟩ := hcut
                      clear hK8 c5 c6
                      have c5 := hK9.c5
                      have hKq := hK9.next ((Below.refl _ _).alloc (Nat.le_refl _) (.cells #[.string (wireOf n S)] 29))
                      have l5 := hK9.l5
                      have l6 := hK9.l6
                      have l7 := hK9.l7
                      have l0 := hK9.bel.size
                      go_wp2
                      go_loopg [13] n (fun gk i wr => ∃ k : Nat, k + gk = n ∧ i = .int .i64 k ∧ Hid (Good (n - k) (shk S k)) ∧ Kp w'' (w2.heap.size + 1) w4.heap.size (w4.heap.size + 1) (wireOf n S) (wireOf (n - 1) (sh S)) wr ∧ wr.cell? ⟨wc.heap.size, 0, none⟩ = some (.string (wireOf (n - k) (shk S k))) ∧ wr.frozen? ⟨wc.heap.size, 0, none⟩ = false ∧ wc.heap.size < wr.heap.size)
                      case atStart => exact ⟨0, by omega, rfl, HG.out.1, hKq, by simp; rfl, by simp, by simp⟩
                      case round =>
                        obtain ⟨k, hk, rfl, HGk, hKr, hcq, hfq, hzq⟩ := hrel
                        clear hK9 hKq c5
                        by_cases hlt : k < n
                        · have HK : Hid (k + gk = n) := hk
                          clear hk
                          go_wp2_with fail
                          refine (parent13 (n - k) (shk S k) (by omega) HGk.out _).mono ?_
                          rintro e w10 ⟨rfl, hb10⟩
                          have hK10 := hKr.next hb10
                          have hc10 := (hb10.cell (p := ⟨wc.heap.size, 0, none⟩) hzq).trans hcq
                          have hf10 := (hb10.frozen (p := ⟨wc.heap.size, 0, none⟩) hzq).trans hfq
                          have hz10 := Nat.lt_of_lt_of_le hzq hb10.size
                          clear hKr hcq hfq hb10 hzq
                          go_wp2
                          go_roundg (gk - 1)
                          case measure => have := HK.out; omega
                          case rel =>
                            refine ⟨k + 1, by have := HK.out; omega, by go_num, good_shk hlt HGk.out, hK10.setCell l5 l6 l7 l0 _, ?_, by rw [World.frozen?_setCell]; exact hf10, by simpa [World.setCell] using hz10⟩
                            rw [World.cell?_setCell_same w10 _ _ hc10, sh_shk, show n - (k + 1) = n - k - 1 by omega]
                        · have hkn : n - k = 0 := by omega
                          rw [hkn] at hcq
                          have c12 : wr.cell? ⟨wc.heap.size, 0, none⟩ = some (.string ⟨#[]⟩) := hcq
                          have c7 := hKr.c7
                          clear hcq hkn
                          go_wp2
                          go_ret
                          exact lawPost hKr.bel
        · have hB : Below w''.heap.size w'' w2 := hb1.trans (hb2.mono hb1.size)
          go_wp2
          go_ret
          exact lawPost hB
      · go_wp2
        go_ret
        exact lawPost (Below.refl _ _)
    · go_wp2
      go_ret
      exact lawPost (Below.refl _ _)

end Go.Proofs.Qxb6003358a
