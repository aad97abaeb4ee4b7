/-
  The walk of 'FnLowerIsCaseCanonical'.
-/
import Derived.Test.Qxb6003358aToggle
import Derived.Deep.DeepCutAuto
import Derived.Deep.RegionWith
namespace Go.Proofs.Qxb6003358a
open Go.RowKit

/-- What the law's own variables hold from the Lowers on: the two names, the folded name. -/
structure Kq (w0 : World) (B5 B6 B7 : Nat) (s5 s6 s7 : ByteArray) (w : World) : Prop where
  c5 : w.cell? ⟨B5, 0, none⟩ = some (.string s5)
  c6 : w.cell? ⟨B6, 0, none⟩ = some (.string s6)
  c7 : w.cell? ⟨B7, 0, none⟩ = some (.string s7)
  l5 : B5 < w.heap.size
  l6 : B6 < w.heap.size
  l7 : B7 < w.heap.size
  bel : Below w0.heap.size w0 w

theorem Kq.next {w0 : World} {B5 B6 B7 : Nat} {s5 s6 s7 : ByteArray} {w w' : World} (h : Kq w0 B5 B6 B7 s5 s6 s7 w) (hb : Below w.heap.size w w') : Kq w0 B5 B6 B7 s5 s6 s7 w' :=
  ⟨(hb.cell (p := ⟨B5, 0, none⟩) h.l5).trans h.c5, (hb.cell (p := ⟨B6, 0, none⟩) h.l6).trans h.c6, (hb.cell (p := ⟨B7, 0, none⟩) h.l7).trans h.c7,
    Nat.lt_of_lt_of_le h.l5 hb.size, Nat.lt_of_lt_of_le h.l6 hb.size, Nat.lt_of_lt_of_le h.l7 hb.size, h.bel.trans (hb.mono h.bel.size)⟩

/-- The four blocks that the two names take. -/
theorem two_names (w : World) (s t : ByteArray) :
    ((((w.alloc (.cells #[.string s] 29)).alloc (.cells #[.string s] 29)).alloc (.cells #[.string t] 29)).alloc (.cells #[.string t] 29)).cell? ⟨w.heap.size + 1, 0, none⟩ = some (.string s) ∧
    ((((w.alloc (.cells #[.string s] 29)).alloc (.cells #[.string s] 29)).alloc (.cells #[.string t] 29)).alloc (.cells #[.string t] 29)).cell? ⟨w.heap.size + 1 + 1 + 1, 0, none⟩ = some (.string t) ∧
    Below w.heap.size w ((((w.alloc (.cells #[.string s] 29)).alloc (.cells #[.string s] 29)).alloc (.cells #[.string t] 29)).alloc (.cells #[.string t] 29)) := by
  refine ⟨?_, ?_, ?_⟩
  · apply Lib.cell?_alloc_some
    apply Lib.cell?_alloc_some
    have e : (w.alloc (.cells #[.string s] 29)).heap.size = w.heap.size + 1 := by simp
    rw [← e]
    simp
  · have e : (((w.alloc (.cells #[.string s] 29)).alloc (.cells #[.string s] 29)).alloc (.cells #[.string t] 29)).heap.size = w.heap.size + 1 + 1 + 1 := by simp
    have hh := heap_alloc_new (((w.alloc (.cells #[.string s] 29)).alloc (.cells #[.string s] 29)).alloc (.cells #[.string t] 29)) (.cells #[.string t] 29)
    rw [e] at hh
    simp only [World.cell?]
    rw [hh]
    rfl
  · exact ((((Below.refl _ _).alloc (Nat.le_refl _) _).alloc (by simp) _).alloc (by simp; omega) _).alloc (by simp; omega) _

/-- From the two names to the folded one. -/
theorem kq_start {w0 w4 w6 : World} {s t l : ByteArray} (hB : Below w0.heap.size w0 w4)
    (hb : Below (w4.heap.size + 4) ((((w4.alloc (.cells #[.string s] 29)).alloc (.cells #[.string s] 29)).alloc (.cells #[.string t] 29)).alloc (.cells #[.string t] 29)) w6) :
    Kq w0 (w4.heap.size + 1) (w4.heap.size + 1 + 1 + 1) w6.heap.size s t l (w6.alloc (.cells #[.string l] 29)) := by
  obtain ⟨h1, h2, h3⟩ := two_names w4 s t
  have hsz := hb.size
  simp at hsz
  have hB6 : Below w0.heap.size w0 w6 := hB.trans ((h3.trans (hb.mono (by omega))).mono hB.size)
  refine ⟨Lib.cell?_alloc_some _ ((hb.cell (p := ⟨w4.heap.size + 1, 0, none⟩) (by simp)).trans h1), Lib.cell?_alloc_some _ ((hb.cell (p := ⟨w4.heap.size + 1 + 1 + 1, 0, none⟩) (by simp)).trans h2), by simp, by simp; omega, by simp; omega, by simp, hB6.alloc hB6.size _⟩

set_option maxRecDepth 100000 in
set_option maxHeartbeats 8000000 in
theorem law5 (ao : Option Addr) (n cap : Nat) (S : Nat → ByteArray) (ao2 : Option Addr) (m cap2 : Nat) (FL : Nat → Bool) (w : World) (h : StrsAt w ao n S) (hn : n ≤ maxLen) (hS : ∀ i, (S i).size ≤ maxLen) (h2 : BoolsAt w ao2 m FL) (hm : m ≤ maxLen) :
    Calls Try.prog 5 #[.slice ao n cap, .slice ao2 m cap2] w fun e w' => LawPost w e w' := by
  go_enter Try.func5, Try.ntmps5
  go_wp2_with fail
  refine (zz15 ao n cap S ao2 m cap2 _ h hn hS hm).mono ?_
  rintro e w' ⟨⟨b, rfl⟩, hw'⟩
  subst hw'
  cases b with
  | false =>
    go_wp2
    go_ret
    exact lawPost (Below.refl _ _)
  | true =>
    by_cases h65 : n ≤ 65536
    · by_cases m65 : m ≤ 65536
      · go_wp2_with fail
        refine (lb7 ao n cap S _ h hn).mono ?_
        rintro e w'' ⟨⟨z, rfl⟩, hw'⟩
        subst hw'
        go_wp2_with fail
        · go_ret
          exact lawPost (Below.refl _ _)
        · refine (clone8 ao n cap S _ h h65).mono ?_
          rintro e w1 ⟨ao1, cap1, rfl, hcap1, hs1, hb1⟩
          have h2a := h2.below hb1
          go_wp2_with fail
          refine (clone16 ao2 m cap2 FL _ h2a m65).mono ?_
          rintro e w1a ⟨ao2', cap2', rfl, hcap2, hs2, hb2⟩
          have hs1a := hs1.below hb2
          have hB1 : Below w''.heap.size w'' w1a := hb1.trans (hb2.mono hb1.size)
          clear h h2 h2a hs1 hb1 hb2
          go_wp2_with fail
          refine (build9 ao1 n cap1 S _ hs1a hn (fun i _ => hS i)).mono ?_
          rintro e w2 ⟨hb2, (⟨hG, rfl⟩ | ⟨_, rfl⟩)⟩
          · have hl2 := hs1a.below hb2
            have hf2 := hs2.below hb2
            have hB : Below w''.heap.size w'' w2 := hB1.trans (hb2.mono hB1.size)
            clear hs1a hs2 hB1 hb2
            have HG : Hid (Good n S) := hG
            have hn127 := hG.1
            have hmk := run_make_row' (P := Try.prog) 22 9 (.string ByteArray.empty) 16 Try.underlying22 info9 rfl .i64 .i64 n (by omega) (by omega)
            clear hG hn hm
            go_wp2_with fail
            go_loopg [8, 9, 10, 11] n (fun gk sk si _ _ wr => ∃ (i kk : Nat) (F : Nat → Value) (T : Nat → ByteArray), i + gk = n ∧ si = .int .i64 i ∧ sk = .int .i64 kk ∧ kk ≤ 64 * i ∧ wr.rowIs w2.heap.size 9 n F ∧ (∀ x, x < i → F x = .string (T x)) ∧ Alike i S T ∧ Below w2.heap.size w2 wr)
            case atStart => exact ⟨0, 0, _, fun _ => ByteArray.empty, by omega, rfl, rfl, by omega, World.rowIs_made _ _ _ _, fun x hx => by omega, fun x hx => by omega, (Below.refl _ _).alloc (Nat.le_refl _) _⟩
            case round =>
              rename World => wo
              obtain ⟨i, kk, F, T, hi, rfl, rfl, hkk, hrow, hF, hA, hnx⟩ := hrel
              clear hmk
              by_cases hlt : i < n
              · have hsz := HG.out.2.1 i hlt
                obtain ⟨bl, ol, hal, hbl, hcl⟩ := (hl2.below hnx).pos hlt
                subst hal
                have hcli := hcl i hlt
                have hcv := fun (w : World) => run_bytes_of_string (P := Try.prog) w 9 36 5 (S i) Try.underlying9 Try.underlying36 Try.underlying5
                have HR : Hid (wo.rowIs w2.heap.size 9 n F ∧ (∀ x, x < i → F x = .string (T x)) ∧ Alike i S T) := ⟨hrow, hF, hA⟩
                have HI : Hid (i + gk = n) := hi
                have hlr := hrow.lt
                clear hcl hrow hF hA hi
                go_wp2_with fail
                clear hcv
                go_loopg [8, 11] (S i).size (fun gj sk sj wr => ∃ (j kj : Nat) (g : Nat → UInt8), j + gj = (S i).size ∧ sj = .int .i64 j ∧ sk = .int .i64 kj ∧ kj ≤ 64 * i + j ∧ Tog wr wo.heap.size (S i) g ∧ Below wo.heap.size wo wr)
                case atStart => exact ⟨0, kk, _, by omega, rfl, rfl, by omega, tog_start _ _ _ _ (bytesRow_size _ _), ((Below.refl _ _).alloc (Nat.le_refl _) _).drew⟩
                case round =>
                  obtain ⟨j, kj, g, hj, rfl, rfl, hkj, htog, hni⟩ := hrel
                  have HJ : Hid (j + gk = (S i).size) := hj
                  by_cases hjs : j < (S i).size
                  · obtain ⟨hcj, hfj⟩ := htog.1 j hjs
                    have hcx : wr.cell? ⟨wo.heap.size, j, none⟩ = some (.int .u8 ((g j).toNat : Int)) := hcj
                    clear hcj hj hcli
                    have stay : Hid (∃ (j' kj' : Nat) (g' : Nat → UInt8), j' + (gk - 1) = (S i).size ∧ Value.int .i64 ((j : Int) + 1) = .int .i64 j' ∧ Value.int .i64 ((kj : Int) + 1) = .int .i64 kj' ∧ kj' ≤ 64 * i + j' ∧ Tog wr wo.heap.size (S i) g' ∧ Below wo.heap.size wo wr) :=
                      ⟨j + 1, kj + 1, g, by have := HJ.out; omega, by go_num, by go_num, by omega, htog, hni⟩
                    by_cases hkm : kj < m
                    · obtain ⟨bf, of, haf, hbf, hcf⟩ := ((hf2.below hnx).below hni).pos hkm
                      subst haf
                      have hcfk := hcf kj hkm
                      clear hcf
                      cases hfl : FL kj with
                      | true =>
                        rw [hfl] at hcfk
                        clear hfl
                        cases hle : isLet (g j) with
                        | true =>
                          go_wp2_with (go_at_call 17; refine (letter17 _ _).mono ?_; rintro e w' ⟨rfl, rfl⟩)
                          go_roundg (gk - 1)
                          case measure => have := HJ.out; omega
                          case rel =>
                            obtain ⟨g', hg'⟩ := tog_step htog hjs hle rfl
                            exact ⟨j + 1, kj + 1, g', by have := HJ.out; omega, by go_num, by go_num, by omega, hg', hni.setCell (Nat.le_refl _) _⟩
                        | false =>
                          go_wp2_with (go_at_call 17; refine (letter17 _ _).mono ?_; rintro e w' ⟨rfl, rfl⟩)
                          go_roundg (gk - 1)
                          case measure => have := HJ.out; omega
                          case rel => exact stay
                      | false =>
                        rw [hfl] at hcfk
                        clear hfl
                        go_wp2_with fail
                        go_roundg (gk - 1)
                        case measure => have := HJ.out; omega
                        case rel => exact stay
                    · go_wp2_with fail
                      go_roundg (gk - 1)
                      case measure => have := HJ.out; omega
                      case rel => exact stay
                  · have hcv := fun cap => conv_tog (cap := cap) htog
                    have HT : Hid (lowA (togStr (S i) g) = lowA (S i)) := togStr_low htog
                    have hrow' := HR.out.1.of_block (hni.block _ hlr)
                    have hck := hrow'.cell hlt
                    have hfk := hrow'.frozen i
                    clear hcli htog
                    go_wp2_with fail
                    go_roundg (n - i - 1)
                    case measure => have := HI.out; omega
                    case rel =>
                      obtain ⟨F', T', r1, r2, r3⟩ := toggled_step hrow' HR.out.2.1 HR.out.2.2 HT.out
                      exact ⟨i + 1, kj, F', T', by have := HI.out; omega, by go_num, rfl, by omega, r1, r2, r3, (hnx.trans (hni.mono hnx.size)).setCell (Nat.le_refl _) _⟩
              · have hin : i = n := by omega
                subst hin
                have hT : StrsAt wo (some ⟨w2.heap.size, 0, none⟩) i T := StrsAt.row (hrow.congr hF)
                have hGT := hA.good HG.out
                have hl3 := hl2.below hnx
                have hB3 : Below w''.heap.size w'' wo := hB.trans (hnx.mono hB.size)
                have HA : Hid (Alike i S T) := hA
                clear hl2 hf2 hB hnx hrow hF hA hkk hi
                go_wp2_with fail
                refine (build9 _ i _ T _ hT (by unfold maxLen; omega) (fun x hx => by have := hGT.2.1 x hx; unfold maxLen; omega)).mono ?_
                rintro e w4 ⟨hb4, (⟨_, rfl⟩ | ⟨hno, rfl⟩)⟩
                · have hl4 := hl3.below hb4
                  have hB4 : Below w''.heap.size w'' w4 := hB3.trans (hb4.mono hB3.size)
                  clear hl3 hB3 hb4 hT
                  go_wp2_with fail
                  refine (name10 (wireOf i S) w4).mono ?_
                  rintro e w5 ⟨rfl, hw5⟩
                  subst hw5
                  go_wp2_with fail
                  refine (name10 (wireOf i T) _).mono ?_
                  rintro e w5 ⟨rfl, hw5⟩
                  subst hw5
                  go_wp2_with fail
                  refine (lower14w i S HG.out _).mono ?_
                  rintro e w6 ⟨rfl, hb6⟩
                  have hK6 := kq_start (l := wireOf i (lowS S)) hB4 (hb6.mono (by simp))
                  have hl6 : StrsAt (w6.alloc (.cells #[.string (wireOf i (lowS S))] 29)) ao1 i S := ((hl4.below (two_names w4 (wireOf i S) (wireOf i T)).2.2).below hb6).below ((Below.refl _ _).alloc (Nat.le_refl _) _)
                  have c15 := hK6.c6
                  clear hb6 hB4 hl4
                  go_wp2_with fail
                  refine (lower14t i HA.out HG.out _).mono ?_
                  rintro e w7 ⟨rfl, hb7⟩
                  have hK7 := hK6.next hb7
                  have hl7 := hl6.below hb7
                  have c16 : ∀ A, (w7.alloc A).cell? ⟨w6.heap.size, 0, none⟩ = some (.string (wireOf i (lowS S))) := fun A => Lib.cell?_alloc_some _ hK7.c7
                  have hK8 := hK7.next ((Below.refl _ _).alloc (Nat.le_refl _) (.cells #[.string (wireOf i (lowS S))] 29))
                  have hl8 := hl7.below ((Below.refl _ _).alloc (Nat.le_refl _) (.cells #[.string (wireOf i (lowS S))] 29))
                  clear hK6 hl6 c15 hb7 hK7 hl7
                  go_upto_region 34 with fail
                  go_cut [125] (fun c wx => c = .bool false ∧ Kq w'' (w4.heap.size + 1) (w4.heap.size + 1 + 1 + 1) w6.heap.size (wireOf i S) (wireOf i T) (wireOf i (lowS S)) wx ∧ StrsAt wx ao1 i S)
                  case first =>
                    go_region_with (go_at_call 14; refine (lower14l i S HG.out _).mono ?_; rintro e wA ⟨rfl, hbA⟩; have hKA := (hK8.next (Below.refl _ _).drew).next hbA; have hlA := (hl8.below (Below.refl _ _).drew).below hbA; have c16A := hKA.c7)
                    all_goals
                      go_wp2_with fail
                      go_meet
                      exact ⟨rfl, hKA, hlA⟩
                  case rest =>
                    obtain ⟨rfl, hK9, hl9⟩ := hcut
                    clear hK8 hl8 c16
                    have e1 : lowA (wireOf i S) = wireOf i (lowS S) := low_wire' HG.out
                    have e2 : lowA (wireOf i T) = wireOf i (lowS S) := by rw [low_wire' hGT]; exact HA.out.low
                    have e3 : lowA (wireOf i (lowS S)) = wireOf i (lowS S) := low_wire_low HG.out
                    have z1 : (wireOf i S).size ≤ 254 := by rw [wireOf_size]; have := HG.out.2.2; omega
                    have z2 : (wireOf i T).size ≤ 254 := by rw [wireOf_size]; have := hGT.2.2; omega
                    have EE : Hid ((lowA (wireOf i S) = lowA (wireOf i T) ∧ lowA (wireOf i T) = lowA (wireOf i S)) ∧ lowA (wireOf i S) = lowA (wireOf i (lowS S)) ∧ lowA (wireOf i T) = lowA (wireOf i (lowS S))) := ⟨⟨by rw [e1, e2], by rw [e1, e2]⟩, by rw [e1, e3], by rw [e2, e3]⟩
                    clear e1 e2 e3
                    have c14 := hK9.c5
                    have c15 := hK9.c6
                    go_wp2_with fail
                    refine (fold18 _ _ EE.out.1.1 z1 _).mono ?_
                    rintro e wA ⟨rfl, hbA⟩
                    have hKA := hK9.next hbA
                    have hlA := hl9.below hbA
                    clear c14 c15 hK9 hl9 hbA
                    have c14 := hKA.c5
                    have c15 := hKA.c6
                    go_wp2_with fail
                    refine (fold18 _ _ EE.out.1.2 z2 _).mono ?_
                    rintro e wB ⟨rfl, hbB⟩
                    have hKB := hKA.next hbB
                    have hlB := hlA.below hbB
                    clear c14 c15 hKA hlA hbB
                    have c14 := hKB.c5
                    have c16 := hKB.c7
                    go_wp2_with fail
                    refine (fold18 _ _ EE.out.2.1 z1 _).mono ?_
                    rintro e wC ⟨rfl, hbC⟩
                    have hKC := hKB.next hbC
                    have hlC := hlB.below hbC
                    clear c14 c16 hKB hlB hbC
                    have c15 := hKC.c6
                    have c16 := hKC.c7
                    go_wp2_with fail
                    refine (fold18 _ _ EE.out.2.2 z2 _).mono ?_
                    rintro e wD ⟨rfl, hbD⟩
                    have hKD := hKC.next hbD
                    have hlD := hlC.below hbD
                    clear c15 c16 hKC hlC hbD
                    have c16 := hKD.c7
                    go_wp2_with fail
                    refine (labels11 i (lowS S) _ rfl (good_low HG.out) _).mono ?_
                    rintro e wE ⟨aoE, capE, rfl, hcapE, hsE, hbE⟩
                    have hBE := (hKD.next hbE).bel
                    have hlE := hlD.below hbE
                    clear hKD hlD hbE c16 z1 z2
                    go_wp2_with fail
                    clear EE HA hGT
                    go_loopg [19, 20, 21, 22] i (fun gk sk _ _ _ wr => ∃ k : Nat, k + gk = i ∧ sk = .int .i64 k ∧ Below wE.heap.size wE wr)
                    case atStart => exact ⟨0, by omega, rfl, Below.refl _ _⟩
                    case round =>
                      rename World => wo
                      obtain ⟨k, hk, rfl, hnx⟩ := hrel
                      by_cases hki : k < i
                      · obtain ⟨bE, oE, haE, hlbE, hcE⟩ := hsE.pos hki
                        subst haE
                        obtain ⟨bl, ol, hal, hlbl, hcl⟩ := hlE.pos hki
                        subst hal
                        have hcEk : ∀ wx, Below wE.heap.size wE wx → wx.cell? ⟨bE, oE + k, none⟩ = some (.string (lowA (S k))) := fun wx hx => (hx.cell (by exact hlbE)).trans (hcE k hki)
                        have hclk : ∀ wx, Below wE.heap.size wE wx → wx.cell? ⟨bl, ol + k, none⟩ = some (.string (S k)) := fun wx hx => (hx.cell (by exact hlbl)).trans (hcl k hki)
                        have hz := lowA_size (S k)
                        have hsz := HG.out.2.1 k hki
                        have q1 : (k : Int) < i := by omega
                        have HK : Hid (k + gk = i) := hk
                        have HE : Hid (StrsAt wE (some ⟨bE, oE, none⟩) i (lowS S) ∧ StrsAt wE (some ⟨bl, ol, none⟩) i S) := ⟨hsE, hlE⟩
                        have g1 := hcEk wo hnx
                        have g2 := hclk wo hnx
                        have HC : Hid ((∀ wx, Below wE.heap.size wE wx → wx.cell? ⟨bE, oE + k, none⟩ = some (.string (lowA (S k)))) ∧ ∀ wx, Below wE.heap.size wE wx → wx.cell? ⟨bl, ol + k, none⟩ = some (.string (S k))) := ⟨hcEk, hclk⟩
                        clear hsE hlE hcE hcl hk hcEk hclk
                        go_wp2_with fail
                        go_quiet (fail)
                        clear g1 g2
                        go_wp2_with fail
                        go_loopg [20, 21, 22] (S k).size (fun gj sj _ _ wr => ∃ j : Nat, j + gj = (S k).size ∧ sj = .int .i64 j ∧ Below wE.heap.size wE wr)
                        case atStart => exact ⟨0, by omega, rfl, below_drewN hnx _⟩
                        case round =>
                          obtain ⟨j, hj, rfl, hnj⟩ := hrel
                          have g1 := HC.out.1 _ hnj
                          have g2 := HC.out.2 _ hnj
                          by_cases hjs : j < (S k).size
                          · obtain ⟨g, hg⟩ : ∃ g, g = lowB (S k)[j] := ⟨_, rfl⟩
                            have hat : ∀ h', (lowA (S k))[j]'h' = g := fun h' => by rw [low_at (S k) j hjs h', hg]
                            have hug : isUp g = false := by rw [hg]; exact up_low _
                            have hcb := UInt8.toNat_lt (S k)[j]
                            have HJ : Hid (j + gk = (S k).size) := hj
                            clear hj
                            cases huc : isUp (S k)[j] with
                            | true =>
                              have hup : 65 ≤ (S k)[j].toNat ∧ (S k)[j].toNat ≤ 90 := by simpa [isUp] using huc
                              have hl := lowB_yes hup
                              rw [← hg] at hl
                              have i1 : (g.toNat : Int) ≤ (S k)[j].toNat + 32 := by omega
                              have i2 : ((S k)[j].toNat : Int) + 32 ≤ g.toNat := by omega
                              clear hl hg
                              go_wp2_with (go_at_call 19; refine (up19 _ _).mono ?_; rintro e w' ⟨rfl, rfl⟩)
                              go_roundg (gk - 1)
                              case measure => have := HJ.out; omega
                              case rel => exact ⟨j + 1, by have := HJ.out; omega, by go_num, hnj⟩
                            | false =>
                              have hup : ¬ (65 ≤ (S k)[j].toNat ∧ (S k)[j].toNat ≤ 90) := by simpa [isUp] using huc
                              rw [lowB_no hup] at hg
                              have i1 : (g.toNat : Int) ≤ (S k)[j].toNat := by rw [hg]; exact Int.le_refl _
                              have i2 : ((S k)[j].toNat : Int) ≤ g.toNat := by rw [hg]; exact Int.le_refl _
                              clear hg
                              go_wp2_with (go_at_call 19; refine (up19 _ _).mono ?_; rintro e w' ⟨rfl, rfl⟩)
                              go_roundg (gk - 1)
                              case measure => have := HJ.out; omega
                              case rel => exact ⟨j + 1, by have := HJ.out; omega, by go_num, hnj⟩
                          · go_wp2_with fail
                            go_roundg (i - k - 1)
                            case measure => have := HK.out; omega
                            case rel => exact ⟨k + 1, by have := HK.out; omega, by go_num, hnj⟩
                      · go_wp2_with fail
                        go_ret
                        exact lawPost (hBE.trans (hnx.mono hBE.size))
                · exact absurd hGT hno
          · have hB : Below w''.heap.size w'' w2 := hB1.trans (hb2.mono hB1.size)
            go_wp2
            go_ret
            exact lawPost hB
      · go_wp2
        go_ret
        exact lawPost (Below.refl _ _)
    · go_wp2
      go_ret
      exact lawPost (Below.refl _ _)

end Go.Proofs.Qxb6003358a
