/-
  cmp.Compare, decimal.len, decimal.digit, decimal.compareMagnitude, ZZCompareMagnitude.
-/
import Derived.Test.Qxb6003369aMagWalks
import Derived.Deep.RegionWith
import Derived.Deep.DeepCutAuto
namespace Go.Proofs.Qxb6003369a
open Go.RowKit

theorem cmp29 (x y : Nat) (w : World) : Calls Try.prog 29 #[.int .i64 x, .int .i64 y] w fun e w' => e = .returned (.int .i64 (cmpN x y)) ∧ w' = w := by
  unfold cmpN
  by_cases h1 : x < y
  · rw [if_pos h1]
    go_enter Try.func29, Try.ntmps29
    go_wp2
    go_ret
    exact ⟨rfl, rfl⟩
  · rw [if_neg h1]
    by_cases h2 : y < x
    · rw [if_pos h2]
      go_enter Try.func29, Try.ntmps29
      go_wp2
      go_ret
      exact ⟨rfl, rfl⟩
    · rw [if_neg h2]
      go_enter Try.func29, Try.ntmps29
      go_wp2
      go_ret
      exact ⟨rfl, rfl⟩

theorem cmp32 (x y : Nat) (w : World) : Calls Try.prog 32 #[.int .u8 x, .int .u8 y] w fun e w' => e = .returned (.int .i64 (cmpN x y)) ∧ w' = w := by
  unfold cmpN
  by_cases h1 : x < y
  · rw [if_pos h1]
    go_enter Try.func32, Try.ntmps32
    go_wp2
    go_ret
    exact ⟨rfl, rfl⟩
  · rw [if_neg h1]
    by_cases h2 : y < x
    · rw [if_pos h2]
      go_enter Try.func32, Try.ntmps32
      go_wp2
      go_ret
      exact ⟨rfl, rfl⟩
    · rw [if_neg h2]
      go_enter Try.func32, Try.ntmps32
      go_wp2
      go_ret
      exact ⟨rfl, rfl⟩

/-- A decimal as the program holds it. -/
abbrev decV (d0 d1 : ByteArray) (p : Nat) : Value := .agg #[.bool false, .string d0, .string d1, .int .i64 (p : Int)]

theorem len30 (d0 d1 : ByteArray) (p : Nat) (h0 : d0.size ≤ 100) (h1 : d1.size ≤ 100) (w : World) : Calls Try.prog 30 #[decV d0 d1 p] w fun e w' => RetI w ((d0.size : Int) + d1.size) e w' := by
  go_enter Try.func30, Try.ntmps30
  go_wp2
  go_ret
  exact retI rfl ((Below.refl _ _).alloc (Nat.le_refl _) _)

/-- The digits of the two runs as one. -/
def joinL (d0 d1 : ByteArray) : List UInt8 := d0.data.toList ++ d1.data.toList
theorem joinL_length (d0 d1 : ByteArray) : (joinL d0 d1).length = d0.size + d1.size := by simp [joinL]
/-- It returned this byte. -/
def RetC (w : World) (c : UInt8) (e : Ending) (w' : World) : Prop := e = .returned (.int .u8 (c.toNat : Int)) ∧ Below w.heap.size w w'
theorem retC {w w' : World} {c d : UInt8} (hc : d = c) (h : Below w.heap.size w w') : RetC w c (.returned (.int .u8 (d.toNat : Int))) w' := ⟨by rw [hc], h⟩

theorem digit31 (d0 d1 : ByteArray) (p i : Nat) (h1 : d1.size ≤ 100) (hi : i < d0.size + d1.size) (w : World) :
    Calls Try.prog 31 #[decV d0 d1 p, .int .i64 i] w fun e w' => RetC w ((joinL d0 d1).getD i 0) e w' := by
  by_cases h : i < d0.size
  · have HE : Hid (d0[i] = (joinL d0 d1).getD i 0) := by
      unfold Hid joinL
      have : d0[i] = d0.data.toList[i]'(by simpa using h) := rfl
      rw [this, List.getD, List.getElem?_append_left (by simpa using h)]
      simp [h]
    go_enter Try.func31, Try.ntmps31
    go_wp2
    go_ret
    exact retC HE.out ((Below.refl _ _).alloc (Nat.le_refl _) _)
  · have hj : i - d0.size < d1.size := by omega
    have HE : Hid (d1[i - d0.size] = (joinL d0 d1).getD i 0) := by
      unfold Hid joinL
      have : d1[i - d0.size] = d1.data.toList[i - d0.size]'(by simpa using hj) := rfl
      rw [this]
      have hl : d0.data.toList.length = d0.size := by simp
      rw [List.getD, List.getElem?_append_right (by omega), hl]
      simp [hj]
    have t1 : ((i : Int) - d0.size).toNat = i - d0.size := by omega
    go_enter Try.func31, Try.ntmps31
    go_wp2
    go_ret
    exact retC HE.out ((Below.refl _ _).alloc (Nat.le_refl _) _)

/-- While the first i digits agree, the rest decides. -/
theorem lex_drop : ∀ (i : Nat) (x y : List UInt8), i ≤ x.length → i ≤ y.length → (∀ j, j < i → x.getD j 0 = y.getD j 0) → lexc x y = lexc (x.drop i) (y.drop i)
  | 0, _, _, _, _, _ => rfl
  | i + 1, [], _, h, _, _ => by simp at h
  | i + 1, _ :: _, [], _, h, _ => by simp at h
  | i + 1, a :: x, b :: y, hx, hy, h => by
    have h0 : a = b := by simpa using h 0 (by omega)
    subst h0
    simp only [lexc, Nat.lt_irrefl, if_false, List.drop_succ_cons]
    exact lex_drop i x y (by simpa using hx) (by simpa using hy) (fun j hj => by simpa using h (j + 1) (by omega))
theorem lex_diff {x y : List UInt8} {i : Nat} (hx : i < x.length) (hy : i < y.length) (h : ∀ j, j < i → x.getD j 0 = y.getD j 0) (hne : x.getD i 0 ≠ y.getD i 0) :
    lexc x y = cmpN (x.getD i 0).toNat (y.getD i 0).toNat := by
  rw [lex_drop i x y (by omega) (by omega) h, List.drop_eq_getElem_cons hx, List.drop_eq_getElem_cons hy]
  have e1 : x.getD i 0 = x[i] := by simp [List.getD, hx]
  have e2 : y.getD i 0 = y[i] := by simp [List.getD, hy]
  rw [e1, e2] at hne ⊢
  have hn : x[i].toNat ≠ y[i].toNat := fun e => hne (UInt8.toNat_inj.1 e)
  simp only [lexc, cmpN]
  by_cases h1 : x[i].toNat < y[i].toNat
  · rw [if_pos h1, if_pos h1]
  · rw [if_neg h1, if_neg h1, if_pos (by omega), if_pos (by omega)]
theorem lex_end {x y : List UInt8} (h : ∀ j, j < min x.length y.length → x.getD j 0 = y.getD j 0) : lexc x y = cmpN x.length y.length := by
  rw [lex_drop (min x.length y.length) x y (Nat.min_le_left ..) (Nat.min_le_right ..) h]
  unfold cmpN
  by_cases h1 : x.length < y.length
  · rw [if_pos h1, Nat.min_eq_left (by omega), List.drop_length]
    cases hd : y.drop x.length with
    | nil => have := congrArg List.length hd; simp at this; omega
    | cons a r => rfl
  · rw [if_neg h1, Nat.min_eq_right (by omega), List.drop_length]
    by_cases h2 : y.length < x.length
    · rw [if_pos h2]
      cases hd : x.drop y.length with
      | nil => have := congrArg List.length hd; simp at this; omega
      | cons a r => rfl
    · rw [if_neg h2, show y.length = x.length by omega, List.drop_length]
      rfl

/-- The two boxes of a comparison: what they hold. -/
structure Bx (w0 : World) (B : Nat) (d0 d1 : ByteArray) (p : Nat) (e0 e1 : ByteArray) (q : Nat) (w : World) : Prop where
  c0 : w.cell? ⟨B, 0, none⟩ = some (.bool false)
  c1 : w.cell? ⟨B, 1, none⟩ = some (.string d0)
  c2 : w.cell? ⟨B, 2, none⟩ = some (.string d1)
  c3 : w.cell? ⟨B, 3, none⟩ = some (.int .i64 (p : Int))
  k0 : w.cell? ⟨B + 1, 0, none⟩ = some (.bool false)
  k1 : w.cell? ⟨B + 1, 1, none⟩ = some (.string e0)
  k2 : w.cell? ⟨B + 1, 2, none⟩ = some (.string e1)
  k3 : w.cell? ⟨B + 1, 3, none⟩ = some (.int .i64 (q : Int))
  l : B + 1 < w.heap.size
  bel : Below w0.heap.size w0 w

theorem Bx.next {w0 : World} {B : Nat} {d0 d1 : ByteArray} {p : Nat} {e0 e1 : ByteArray} {q : Nat} {w w' : World} (h : Bx w0 B d0 d1 p e0 e1 q w) (hb : Below w.heap.size w w') : Bx w0 B d0 d1 p e0 e1 q w' := by
  have hl := h.l
  have e : ∀ x, w'.cell? ⟨B, x, none⟩ = w.cell? ⟨B, x, none⟩ := fun x => hb.cell (p := ⟨B, x, none⟩) (by show B < _; omega)
  have f : ∀ x, w'.cell? ⟨B + 1, x, none⟩ = w.cell? ⟨B + 1, x, none⟩ := fun x => hb.cell (p := ⟨B + 1, x, none⟩) hl
  exact ⟨(e 0).trans h.c0, (e 1).trans h.c1, (e 2).trans h.c2, (e 3).trans h.c3, (f 0).trans h.k0, (f 1).trans h.k1, (f 2).trans h.k2, (f 3).trans h.k3, Nat.lt_of_lt_of_le hl hb.size, h.bel.trans (hb.mono h.bel.size)⟩

theorem bx_start (w : World) (d0 d1 : ByteArray) (p : Nat) (e0 e1 : ByteArray) (q : Nat) :
    Bx w w.heap.size d0 d1 p e0 e1 q ((w.alloc (.cells #[.bool false, .string d0, .string d1, .int .i64 (p : Int)] 46)).alloc (.cells #[.bool false, .string e0, .string e1, .int .i64 (q : Int)] 46)) := by
  have h1 : ((w.alloc (.cells #[.bool false, .string d0, .string d1, .int .i64 (p : Int)] 46)).alloc (.cells #[.bool false, .string e0, .string e1, .int .i64 (q : Int)] 46)).heap[w.heap.size]? = some (.cells #[.bool false, .string d0, .string d1, .int .i64 (p : Int)] 46 (0, 0)) := by
    rw [Below.heap_alloc _ _ _ (by simp)]
    exact heap_alloc_new w _
  have h2 : ((w.alloc (.cells #[.bool false, .string d0, .string d1, .int .i64 (p : Int)] 46)).alloc (.cells #[.bool false, .string e0, .string e1, .int .i64 (q : Int)] 46)).heap[w.heap.size + 1]? = some (.cells #[.bool false, .string e0, .string e1, .int .i64 (q : Int)] 46 (0, 0)) := by
    have := heap_alloc_new (w.alloc (.cells #[.bool false, .string d0, .string d1, .int .i64 (p : Int)] 46)) (.cells #[.bool false, .string e0, .string e1, .int .i64 (q : Int)] 46)
    rwa [show (w.alloc (.cells #[.bool false, .string d0, .string d1, .int .i64 (p : Int)] 46)).heap.size = w.heap.size + 1 by simp] at this
  refine ⟨?_, ?_, ?_, ?_, ?_, ?_, ?_, ?_, by simp, ((Below.refl _ _).alloc (Nat.le_refl _) _).alloc (by simp) _⟩
  all_goals
    simp only [World.cell?]
    first | rw [h1] | rw [h2]
    rfl

/-- What the comparison answers. -/
def magR (d0 d1 : ByteArray) (p : Nat) (e0 e1 : ByteArray) (q : Nat) : Int := if p = q then lexc (joinL d0 d1) (joinL e0 e1) else cmpN p q

set_option maxRecDepth 100000 in
set_option maxHeartbeats 4000000 in
theorem mag24 (d0 d1 : ByteArray) (p : Nat) (e0 e1 : ByteArray) (q : Nat) (h0 : d0.size ≤ 100) (h1 : d1.size ≤ 100) (g0 : e0.size ≤ 100) (g1 : e1.size ≤ 100) (w : World) :
    Calls Try.prog 24 #[decV d0 d1 p, decV e0 e1 q] w fun e w' => RetI w (magR d0 d1 p e0 e1 q) e w' := by
  have hS := bx_start w d0 d1 p e0 e1 q
  by_cases hpq : p = q
  · subst hpq
    have HM : Hid (magR d0 d1 p e0 e1 p = lexc (joinL d0 d1) (joinL e0 e1)) := by unfold Hid magR; rw [if_pos rfl]
    obtain ⟨nx, hnx⟩ : ∃ nx, nx = d0.size + d1.size := ⟨_, rfl⟩
    obtain ⟨ny, hny⟩ : ∃ ny, ny = e0.size + e1.size := ⟨_, rfl⟩
    have HX : Hid (nx = d0.size + d1.size ∧ ny = e0.size + e1.size) := ⟨hnx, hny⟩
    have bx : nx ≤ 200 := by omega
    have by' : ny ≤ 200 := by omega
    clear hnx hny
    go_enter Try.func24, Try.ntmps24
    go_upto_region 3 with fail
    go_cut [5, 6] (fun s5 s6 wx => s5 = .int .i64 (nx : Int) ∧ s6 = .int .i64 (ny : Int) ∧ Bx w w.heap.size d0 d1 p e0 e1 p wx)
    case first =>
      obtain ⟨c0, c1, c2, c3, k0, k1, k2, k3, _, _⟩ := id hS
      go_region_with (first | (go_at_call_of 30 (Value.string d0); refine (len30 d0 d1 p h0 h1 _).mono ?_; rintro e wA ⟨rfl, hbA⟩; have hxA := (hS.next (Below.refl _ _).drew).next hbA; obtain ⟨a0, a1, a2, a3, b0, b1, b2, b3, _, _⟩ := id hxA) | (go_at_call_of 30 (Value.string e0); refine (len30 e0 e1 p g0 g1 _).mono ?_; rintro e wB ⟨rfl, hbB⟩; have hxB := hxA.next hbB))
      all_goals
        go_wp2_with fail
        go_meet
        exact ⟨congrArg (Value.int .i64) (by have := HX.out.1; omega), congrArg (Value.int .i64) (by have := HX.out.2; omega), hxB⟩
    case rest =>
      obtain ⟨rfl, rfl, hx3⟩ := hcut
      clear hS
      obtain ⟨mn, hmn⟩ : ∃ mn, mn = min nx ny := ⟨_, rfl⟩
      have HMN : Hid (mn = min nx ny) := hmn
      have m1 : mn ≤ nx := by omega
      have m2 : mn ≤ ny := by omega
      clear hmn
      go_upto_region 4 with fail
      go_cut [26, 27] (fun s26 s27 wx => s26 = .int .i64 (mn : Int) ∧ s27 = .int .i64 0 ∧ Bx w w.heap.size d0 d1 p e0 e1 p wx)
      case first =>
        by_cases hle : nx ≤ ny
        all_goals
          go_wp2_with fail
          all_goals
            go_meet
            exact ⟨congrArg (Value.int .i64) (by have := HMN.out; omega), rfl, hx3⟩
      case rest =>
        obtain ⟨rfl, rfl, hx4⟩ := hcut
        clear hx3
        go_wp2_with fail
        go_loopg [7, 8, 9, 27] mn (fun gk _ _ _ si wr => ∃ i : Nat, Hid (i + gk = mn) ∧ si = .int .i64 i ∧ Hid (∀ j, j < i → (joinL d0 d1).getD j 0 = (joinL e0 e1).getD j 0) ∧ Bx w w.heap.size d0 d1 p e0 e1 p wr)
        case atStart => exact ⟨0, by simp [Hid], rfl, fun j hj => by omega, hx4⟩
        case round =>
          obtain ⟨i, HI, rfl, HE, hx5⟩ := hrel
          rename World => wi
          clear hx4
          by_cases hlt : i < mn
          · have hnx1 : i < d0.size + d1.size := by have := HX.out.1; omega
            have hny1 : i < e0.size + e1.size := by have := HX.out.2; omega
            obtain ⟨a, ha⟩ : ∃ a, a = (joinL d0 d1).getD i 0 := ⟨_, rfl⟩
            obtain ⟨b, hb⟩ : ∃ b, b = (joinL e0 e1).getD i 0 := ⟨_, rfl⟩
            have HA : Hid (∀ wx, Calls Try.prog 31 #[decV d0 d1 p, .int .i64 i] wx fun e w' => RetC wx a e w') := fun wx => by rw [ha]; exact digit31 d0 d1 p i h1 hnx1 wx
            have HB : Hid (∀ wx, Calls Try.prog 31 #[decV e0 e1 p, .int .i64 i] wx fun e w' => RetC wx b e w') := fun wx => by rw [hb]; exact digit31 e0 e1 p i g1 hny1 wx
            have HAB : Hid (a = (joinL d0 d1).getD i 0 ∧ b = (joinL e0 e1).getD i 0) := ⟨ha, hb⟩
            clear ha hb
            go_upto_region 7 with fail
            go_cut [8, 9] (fun s8 s9 wx => s8 = .int .u8 (a.toNat : Int) ∧ s9 = .int .u8 (b.toNat : Int) ∧ Bx w w.heap.size d0 d1 p e0 e1 p wx)
            case first =>
              obtain ⟨c0, c1, c2, c3, k0, k1, k2, k3, _, _⟩ := id hx5
              go_region_with (first | (go_at_call_of 31 (Value.string d0); refine (HA.out _).mono ?_; rintro e wA ⟨rfl, hbA⟩; have hxA := (hx5.next (Below.refl _ _).drew).next hbA; obtain ⟨a0, a1, a2, a3, b0, b1, b2, b3, _, _⟩ := id hxA) | (go_at_call_of 31 (Value.string e0); refine (HB.out _).mono ?_; rintro e wB ⟨rfl, hbB⟩; have hxB := hxA.next hbB))
              all_goals
                go_wp2_with fail
                go_meet
                exact ⟨rfl, rfl, hxB⟩
            case rest =>
              obtain ⟨rfl, rfl, hx6⟩ := hcut
              clear hx5
              by_cases hab : a.toNat = b.toNat
              · have hee : ((a.toNat : Int) == (b.toNat : Int)) = true := by simp [hab]
                have HAB2 : Hid (a.toNat = b.toNat) := hab
                clear hab
                go_wp2_with fail
                go_roundg (gk - 1)
                case measure => have := HI.out; omega
                case rel =>
                  refine ⟨i + 1, by have := HI.out; unfold Hid; omega, by go_num, fun j hj => ?_, hx6⟩
                  by_cases e : j = i
                  · subst e
                    rw [← HAB.out.1, ← HAB.out.2]
                    exact UInt8.toNat_inj.1 HAB2.out
                  · exact HE.out j (by omega)
              · have hee : ((a.toNat : Int) == (b.toNat : Int)) = false := beq_eq_false_iff_ne.2 (by omega)
                have HR : Hid (cmpN a.toNat b.toNat = magR d0 d1 p e0 e1 p) := by
                  unfold Hid
                  rw [HM.out, lex_diff (i := i) (by rw [joinL_length]; omega) (by rw [joinL_length]; omega) HE.out (fun e => hab (by rw [HAB.out.1, HAB.out.2, e])), ← HAB.out.1, ← HAB.out.2]
                clear hab
                go_wp2_with (go_at_call 32; refine (cmp32 _ _ _).mono ?_; rintro e w' ⟨rfl, rfl⟩)
                go_ret
                exact retI HR.out hx6.bel
          · have HR : Hid (cmpN nx ny = magR d0 d1 p e0 e1 p) := by
              unfold Hid
              rw [HM.out, lex_end (fun j hj => HE.out j (by rw [joinL_length, joinL_length, ← HX.out.1, ← HX.out.2, ← HMN.out] at hj; omega)), joinL_length, joinL_length, ← HX.out.1, ← HX.out.2]
            go_wp2_with (go_at_call 29; refine (cmp29 _ _ _).mono ?_; rintro e w' ⟨rfl, rfl⟩)
            go_ret
            exact retI HR.out hx5.bel
  · have hb : ((p : Int) == (q : Int)) = false := beq_eq_false_iff_ne.2 (by omega)
    have HM : Hid (cmpN p q = magR d0 d1 p e0 e1 q) := by unfold Hid magR; rw [if_neg hpq]
    go_enter Try.func24, Try.ntmps24
    go_wp2_with (go_at_call 29; refine (cmp29 _ _ _).mono ?_; rintro e w' ⟨rfl, rfl⟩)
    go_ret
    exact retI HM.out hS.bel

set_option maxHeartbeats 1000000 in
theorem mag11 (d0 d1 : ByteArray) (p : Nat) (e0 e1 : ByteArray) (q : Nat) (h0 : d0.size ≤ 100) (h1 : d1.size ≤ 100) (g0 : e0.size ≤ 100) (g1 : e1.size ≤ 100) (w : World) :
    Calls Try.prog 11 #[.string d0, .string d1, .int .i64 p, .string e0, .string e1, .int .i64 q] w fun e w' => RetI w (magR d0 d1 p e0 e1 q) e w' := by
  go_enter Try.func11, Try.ntmps11
  go_wp2_with fail
  refine (mag24 d0 d1 p e0 e1 q h0 h1 g0 g1 _).mono ?_
  rintro e w1 ⟨rfl, hb⟩
  go_wp2_with fail
  go_ret
  exact retI rfl hb

end Go.Proofs.Qxb6003369a
