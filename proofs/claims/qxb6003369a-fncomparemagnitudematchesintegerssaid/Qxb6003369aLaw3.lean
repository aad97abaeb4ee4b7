/-
  The walk of 'FnCompareMagnitudeMatchesIntegers'.
-/
import Derived.Test.Qxb6003369aMagCmp
namespace Go.Proofs.Qxb6003369a
open Go.RowKit

theorem extract_all (s : ByteArray) (a b : Nat) : (s.extract a b).data.toList = (s.data.toList.drop a).take (b - a) := by
  simp [ByteArray.data_extract]

/-- A numeral's digits behind the trimming. -/
theorem nz_of_last : ∀ (l : List UInt8), (∀ x, l.getLast? = some x → x.toNat ≠ 48) → NZ l
  | [], _ => trivial
  | [d], h => ⟨fun _ => h d rfl, trivial⟩
  | d :: e :: r, h => ⟨fun he => absurd he (by simp), nz_of_last (e :: r) (fun x hx => h x (by simpa using hx))⟩

theorem trim_num {a : Nat} {s t : ByteArray} (h : Dig s.data.toList ∧ (∃ d l, s.data.toList = d :: l ∧ 49 ≤ d.toNat) ∧ val s.data.toList = a) {m : Nat} (ht : t = s.extract 0 m) (hm : TrimTo s m) :
    Num a s.data.toList t.data.toList := by
  obtain ⟨h1, h2, h3⟩ := h
  obtain ⟨m1, m2, m3⟩ := hm
  have hl : s.data.toList.length = s.size := by simp
  have e : t.data.toList = s.data.toList.take m := by rw [ht, extract_all]; simp
  refine ⟨h1, h2, h3, ?_, ⟨s.size - m, ?_⟩⟩
  · rw [e]
    apply nz_of_last
    intro x hx
    rw [List.getLast?_eq_getElem?, List.length_take, hl, Nat.min_eq_left m1, List.getElem?_take] at hx
    by_cases h0 : m = 0
    · subst h0
      simp at hx
    · rw [if_pos (by omega)] at hx
      have hlt : m - 1 < s.size := by omega
      have : s.data.toList[m - 1]? = some s[m - 1] := by
        rw [Array.getElem?_toList]
        exact Array.getElem?_eq_getElem hlt
      rw [this] at hx
      cases hx
      exact m3 (by omega) hlt
  · rw [e]
    have hd : s.data.toList.drop m = List.replicate (s.size - m) 48 := by
      rw [List.eq_replicate_iff]
      refine ⟨by simp, fun x hx => ?_⟩
      obtain ⟨k, hk, rfl⟩ := List.mem_iff_getElem.1 hx
      have hk' : m + k < s.size := by simp at hk; omega
      have e2 : (s.data.toList.drop m)[k] = s[m + k] := by
        rw [List.getElem_drop]
        rfl
      rw [e2]
      exact UInt8.toNat_inj.1 (m2 (m + k) hk' (by omega))
    rw [← hd, List.take_append_drop]

theorem num_len {a : Nat} {D : List UInt8} (h : Dig D ∧ (∃ d l, D = d :: l ∧ 49 ≤ d.toNat) ∧ val D = a) (ha : a < 4294967296) : D.length ≤ 10 := by
  obtain ⟨_, ⟨d, l, rfl, hd⟩, hv⟩ := h
  have h2 := val_ge (l := l) hd
  rw [hv] at h2
  apply Nat.le_of_not_lt
  intro hl
  simp only [List.length_cons] at hl
  have : 10 ^ 10 ≤ 10 ^ l.length := Nat.pow_le_pow_right (by omega) (by omega)
  omega

theorem join_split (t : ByteArray) (i : Nat) : joinL (t.extract 0 i) (t.extract i t.size) = t.data.toList := by
  unfold joinL
  rw [extract_all, extract_all]
  have hl : t.data.toList.length = t.size := by simp
  rw [List.drop_zero, Nat.sub_zero, List.take_of_length_le (l := t.data.toList.drop i) (by simp), List.take_append_drop]

/-- 'zzUtoa', its numeral a string of one name. -/
theorem utoa8' (v : Nat) (h0 : 0 < v) (hv : v < 4294967296) (w : World) :
    Calls Try.prog 8 #[.int .u64 v] w fun e w' => ∃ s : ByteArray, e = .returned (.string s) ∧ (Dig s.data.toList ∧ (∃ d l, s.data.toList = d :: l ∧ 49 ≤ d.toNat) ∧ val s.data.toList = v) ∧ Below w.heap.size w w' :=
  (utoa8 v h0 hv w).mono fun _ _ ⟨D, he, h, hb⟩ => ⟨⟨D.toArray⟩, he, h, hb⟩
theorem trim9' (s : ByteArray) (hs : s.size ≤ 100) (w : World) : Calls Try.prog 9 #[.string s] w fun e w' => ∃ t : ByteArray, e = .returned (.string t) ∧ (∃ m, t = s.extract 0 m ∧ TrimTo s m) ∧ w' = w :=
  (trim9 s hs w).mono fun _ _ ⟨⟨m, he, h⟩, hw⟩ => ⟨s.extract 0 m, he, ⟨m, rfl, h⟩, hw⟩

theorem mod_nat (s t : Nat) : ∃ i : Nat, ((s : Int) % ((t : Int) + 1)) = (i : Int) ∧ i ≤ t :=
  ⟨s % (t + 1), by simp, by have := Nat.mod_lt s (show 0 < t + 1 by omega); omega⟩
theorem pow_le9 {n : Nat} (h : n ≤ 9) : 10 ^ n ≤ 1000000000 := Nat.le_trans (Nat.pow_le_pow_right (by omega) h) (by decide)

/-- The two comparisons, as the numbers compare. -/
theorem mag_pair {a b ea eb : Nat} {sa sb ta tb : ByteArray} (ha : Num a sa.data.toList ta.data.toList) (hb : Num b sb.data.toList tb.data.toList) (ia ib : Nat) {pa pb va vb : Nat}
    (hpa : pa = sa.size + ea) (hpb : pb = sb.size + eb) (hva : va = a * 10 ^ ea) (hvb : vb = b * 10 ^ eb) :
    magR (ta.extract 0 ia) (ta.extract ia ta.size) pa (tb.extract 0 ib) (tb.extract ib tb.size) pb = cmpN va vb := by
  have h := mag_law ha hb ea eb
  have e1 : sa.data.toList.length = sa.size := by simp
  have e2 : sb.data.toList.length = sb.size := by simp
  rw [e1, e2, ← hpa, ← hpb, ← hva, ← hvb] at h
  unfold magR
  rw [join_split ta ia, join_split tb ib]
  exact h

set_option maxRecDepth 100000 in
set_option maxHeartbeats 4000000 in
theorem law3 (a b ea eb sa sb : Nat) (ha : a < 4294967296) (hb : b < 4294967296) (hea : ea < 256) (heb : eb < 256) (hsa : sa < 256) (hsb : sb < 256) (w : World) :
    Calls Try.prog 3 #[.int .u32 a, .int .u32 b, .int .u8 ea, .int .u8 eb, .int .u8 sa, .int .u8 sb] w fun e w' => LawPost w e w' := by
  by_cases a0 : a = 0
  · have z1 : ((a : Int) == 0) = true := by simp [a0]
    go_enter Try.func3, Try.ntmps3
    go_wp2
    go_ret
    exact lawPost (Below.refl _ _)
  · have z1 : ((a : Int) == 0) = false := beq_eq_false_iff_ne.2 (by omega)
    by_cases b0 : b = 0
    · have z2 : ((b : Int) == 0) = true := by simp [b0]
      go_enter Try.func3, Try.ntmps3
      go_wp2
      go_ret
      exact lawPost (Below.refl _ _)
    · have z2 : ((b : Int) == 0) = false := beq_eq_false_iff_ne.2 (by omega)
      by_cases ea9 : ea ≤ 9
      · by_cases eb9 : eb ≤ 9
        · go_enter Try.func3, Try.ntmps3
          go_wp2_with fail
          refine (utoa8' a (by omega) ha w).mono ?_
          rintro e w1 ⟨da, rfl, hDa, hb1⟩
          go_wp2_with fail
          refine (utoa8' b (by omega) hb w1).mono ?_
          rintro e w2 ⟨db, rfl, hDb, hb2⟩
          have hB2 : Below w.heap.size w w2 := hb1.trans (hb2.mono hb1.size)
          clear hb1 hb2
          have la : da.size ≤ 10 := by simpa using num_len hDa ha
          have lb' : db.size ≤ 10 := by simpa using num_len hDb hb
          go_wp2_with fail
          refine (trim9' da (by omega) w2).mono ?_
          rintro e w3 ⟨ta, rfl, ⟨ma, hta, hma⟩, hw3⟩
          subst hw3
          have hNa := trim_num hDa hta hma
          clear hta hma
          go_wp2_with fail
          refine (trim9' db (by omega) w3).mono ?_
          rintro e w4 ⟨tb, rfl, ⟨mb, htb, hmb⟩, hw4⟩
          subst hw4
          have hNb := trim_num hDb htb hmb
          have sta : ta.size ≤ 10 := by
            have := hNa.trim.2.1
            simp at this
            omega
          have stb : tb.size ≤ 10 := by
            have := hNb.trim.2.1
            simp at this
            omega
          have HN : Hid (Num a da.data.toList ta.data.toList ∧ Num b db.data.toList tb.data.toList) := ⟨hNa, hNb⟩
          clear hDa hDb htb hmb hNa hNb
          obtain ⟨ia, hia, lia⟩ := mod_nat sa ta.size
          obtain ⟨ib, hib, lib⟩ := mod_nat sb tb.size
          obtain ⟨pe, hpe⟩ : ∃ pe, pe = 10 ^ ea := ⟨_, rfl⟩
          obtain ⟨pf, hpf⟩ : ∃ pf, pf = 10 ^ eb := ⟨_, rfl⟩
          have HPE : Hid (∀ w, Calls Try.prog 10 #[.int .i64 ea] w fun e w' => e = .returned (.int .u64 (pe : Int)) ∧ w' = w) := fun w => by rw [hpe]; exact pow10 ea ea9 w
          have HPF : Hid (∀ w, Calls Try.prog 10 #[.int .i64 eb] w fun e w' => e = .returned (.int .u64 (pf : Int)) ∧ w' = w) := fun w => by rw [hpf]; exact pow10 eb eb9 w
          have lpe : pe ≤ 1000000000 := by rw [hpe]; exact pow_le9 ea9
          have lpf : pf ≤ 1000000000 := by rw [hpf]; exact pow_le9 eb9
          obtain ⟨va, hva', hva⟩ : ∃ va : Nat, va = a * pe ∧ ((a : Int) * (pe : Int)) = (va : Int) := ⟨a * pe, rfl, by simp⟩
          obtain ⟨vb, hvb', hvb⟩ : ∃ vb : Nat, vb = b * pf ∧ ((b : Int) * (pf : Int)) = (vb : Int) := ⟨b * pf, rfl, by simp⟩
          have HV : Hid (va = a * 10 ^ ea ∧ vb = b * 10 ^ eb) := ⟨by rw [hva', hpe], by rw [hvb', hpf]⟩
          have lva : va ≤ 4294967295000000000 := by rw [hva']; exact Nat.mul_le_mul (show a ≤ 4294967295 by omega) lpe
          have lvb : vb ≤ 4294967295000000000 := by rw [hvb']; exact Nat.mul_le_mul (show b ≤ 4294967295 by omega) lpf
          clear hpe hpf hva' hvb'
          obtain ⟨W, hW⟩ : ∃ W : Int, W = cmpN va vb := ⟨_, rfl⟩
          have HW : Hid (W = cmpN va vb) := hW
          have w1 : -1 ≤ W ∧ W ≤ 1 := by
            rw [hW]
            unfold cmpN
            split
            · omega
            · split <;> omega
          obtain ⟨w1a, w1b⟩ := w1
          clear hW
          obtain ⟨pa, hpa', hpa⟩ : ∃ pa : Nat, pa = da.size + ea ∧ ((da.size : Int) + (ea : Int)) = (pa : Int) := ⟨da.size + ea, rfl, by simp⟩
          obtain ⟨pb, hpb', hpb⟩ : ∃ pb : Nat, pb = db.size + eb ∧ ((db.size : Int) + (eb : Int)) = (pb : Int) := ⟨db.size + eb, rfl, by simp⟩
          have HG : Hid (∀ w, Calls Try.prog 11 #[.string (ta.extract 0 ia), .string (ta.extract ia ta.size), .int .i64 pa, .string (tb.extract 0 ib), .string (tb.extract ib tb.size), .int .i64 pb] w fun e w' => RetI w W e w') := fun w => by
            have := mag11 (ta.extract 0 ia) (ta.extract ia ta.size) pa (tb.extract 0 ib) (tb.extract ib tb.size) pb (by simp; omega) (by simp; omega) (by simp; omega) (by simp; omega) w
            rw [mag_pair HN.out.1 HN.out.2 ia ib hpa' hpb' HV.out.1 HV.out.2, ← HW.out] at this
            exact this
          have HH : Hid (∀ w, Calls Try.prog 11 #[.string (tb.extract 0 ib), .string (tb.extract ib tb.size), .int .i64 pb, .string (ta.extract 0 ia), .string (ta.extract ia ta.size), .int .i64 pa] w fun e w' => RetI w (-W) e w') := fun w => by
            have := mag11 (tb.extract 0 ib) (tb.extract ib tb.size) pb (ta.extract 0 ia) (ta.extract ia ta.size) pa (by simp; omega) (by simp; omega) (by simp; omega) (by simp; omega) w
            rw [mag_pair HN.out.2 HN.out.1 ib ia hpb' hpa' HV.out.2 HV.out.1, cmpN_swap, ← HW.out] at this
            exact this
          have lpa : pa ≤ 19 := by omega
          have lpb : pb ≤ 19 := by omega
          clear hpa' hpb'
          go_upto_if 74 with (first | (go_at_call_of 10 (Value.int IntKind.i64 (ea : Int)); refine (HPE.out _).mono ?_; rintro e w' ⟨rfl, rfl⟩) | (go_at_call_of 10 (Value.int IntKind.i64 (eb : Int)); refine (HPF.out _).mono ?_; rintro e w' ⟨rfl, rfl⟩))
          go_cut [21] (fun s21 wx => s21 = .int .i64 W ∧ Below w.heap.size w wx)
          case first =>
            rcases Nat.lt_trichotomy va vb with h | h | h
            · have e : W = -1 := by rw [HW.out, cmpN, if_pos h]
              have HE : Hid (-1 = W) := e.symm
              clear e
              go_wp2_with fail
              go_meet
              exact ⟨congrArg (Value.int .i64) HE.out, hB2⟩
            · have e : W = 0 := by rw [HW.out, cmpN, if_neg (by omega), if_neg (by omega)]
              have HE : Hid (0 = W) := e.symm
              have h1 : va ≤ vb := by omega
              have h2 : vb ≤ va := by omega
              clear e h
              go_wp2_with fail
              go_meet
              exact ⟨congrArg (Value.int .i64) HE.out, hB2⟩
            · have e : W = 1 := by rw [HW.out, cmpN, if_neg (by omega), if_pos h]
              have HE : Hid (1 = W) := e.symm
              clear e
              go_wp2_with fail
              go_meet
              exact ⟨congrArg (Value.int .i64) HE.out, hB2⟩
          case rest =>
            obtain ⟨rfl, hB3⟩ := hcut
            clear hB2
            have r1 := wrapI (ea : Int) (by omega) (by omega)
            have r2 := wrapI (eb : Int) (by omega) (by omega)
            have r3 := wrapI (pa : Int) (by omega) (by omega)
            have r4 := wrapI (pb : Int) (by omega) (by omega)
            have q1 : (ia : Int) ≤ ta.size := by omega
            have q2 : (ib : Int) ≤ tb.size := by omega
            go_upto_region 16 with fail
            go_cut [22] (fun s22 wx => s22 = .int .i64 W ∧ Below w.heap.size w wx)
            case first =>
              go_region_with (go_at_call 11; refine (HG.out _).mono ?_; rintro e wA ⟨rfl, hbA⟩)
              all_goals
                go_wp2_with fail
                go_meet
                exact ⟨rfl, hB3.drew.trans (hbA.mono hB3.size)⟩
            case rest =>
              obtain ⟨rfl, hB5⟩ := hcut
              clear hB3
              go_upto_region 19 with fail
              go_cut [23] (fun s23 wx => s23 = .int .i64 (-W) ∧ Below w.heap.size w wx)
              case first =>
                go_region_with (go_at_call 11; refine (HH.out _).mono ?_; rintro e wA ⟨rfl, hbA⟩)
                all_goals
                  go_wp2_with fail
                  go_meet
                  exact ⟨rfl, hB5.drew.trans (hbA.mono hB5.size)⟩
              case rest =>
                obtain ⟨rfl, hB6⟩ := hcut
                go_wp2_with fail
                go_ret
                exact lawPostB (by simp) hB6
        · go_enter Try.func3, Try.ntmps3
          go_wp2
          go_ret
          exact lawPost (Below.refl _ _)
      · go_enter Try.func3, Try.ntmps3
        go_wp2
        go_ret
        exact lawPost (Below.refl _ _)

end Go.Proofs.Qxb6003369a
