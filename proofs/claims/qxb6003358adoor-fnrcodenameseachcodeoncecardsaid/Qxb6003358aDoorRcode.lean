/-
  Rcode, rcodeShapeOK, and the walk of the law.
-/
import Derived.Test.Qxb6003358aDoorWalks
namespace Go.Proofs.Qxb6003358aDoor
open Go.RowKit

/-- The table of powers of ten is in its place. -/
abbrev Tab (w : World) : Prop := Lib.TabIs Tryd.prog w Tryd.powName .u64 Lib.pow10Tab

theorem grow_below (w : World) (k : Nat) (os : Array Obj) : Below w.heap.size w (Sort.grow (w.drewN k) os) :=
  ⟨rfl, rfl, rfl, by simp [Sort.grow, World.drewN], fun i hi => by
    show (w.heap ++ os)[i]? = w.heap[i]?
    rw [Array.getElem?_append_left hi]⟩

theorem elevens (c : Nat) (h : c < 11) : c = 0 ∨ c = 1 ∨ c = 2 ∨ c = 3 ∨ c = 4 ∨ c = 5 ∨ c = 6 ∨ c = 7 ∨ c = 8 ∨ c = 9 ∨ c = 10 := by omega

set_option maxHeartbeats 1000000 in
theorem rcode5s (c : Nat) (h : c < 11) (w : World) : Calls Tryd.prog 5 #[.int .u8 c] w fun e w' => RetStr w (rc c) e w' := by
  rcases elevens c h with rfl | rfl | rfl | rfl | rfl | rfl | rfl | rfl | rfl | rfl | rfl
  all_goals
    go_enter Tryd.func5, Tryd.ntmps5
    go_wp2
    go_ret
    exact retStr rfl ((Below.refl _ _).alloc (Nat.le_refl _) _)

theorem rc_long (c : Nat) (h : 11 ≤ c) : (⟨#[82, 67, 79, 68, 69]⟩ : ByteArray) ++ ⟨(dig c).toArray⟩ = rc c := by
  apply ByteArray.ext
  rw [ByteArray.data_append]
  show #[82, 67, 79, 68, 69] ++ (dig c).toArray = (rcL c).toArray
  rw [rcL, if_neg (by omega)]
  simp

set_option maxHeartbeats 1000000 in
theorem rcode5l (c : Nat) (h : 11 ≤ c) (hc : c < 256) (w : World) (ht : Tab w) : Calls Tryd.prog 5 #[.int .u8 c] w fun e w' => RetStr w (rc c) e w' := by
  have htA : ∀ A, Lib.TabIs Tryd.prog (w.alloc A) Tryd.powName .u64 Lib.pow10Tab := fun A => Lib.tabIs_alloc ht A
  have HT : Hid (∀ A, Lib.TabIs Tryd.prog (w.alloc A) Tryd.powName .u64 Lib.pow10Tab) := htA
  clear ht htA
  go_enter Tryd.func5, Tryd.ntmps5
  go_wp2_with fail
  refine (Tryd.strconv_Itoa (c : Int) (by omega) (by omega) _ (HT.out _)).mono ?_
  rintro e w1 ⟨rfl, hg⟩
  obtain ⟨k, os, hw⟩ := hg
  have hB : Below w.heap.size w w1 := by
    rw [hw]
    exact ((Below.refl _ _).alloc (Nat.le_refl _) _).trans ((grow_below _ k os).mono (by simp))
  clear hw
  have hi : Lib.itoa (c : Int) = dig c := by
    unfold Lib.itoa
    rw [if_neg (by omega), Int.toNat_natCast, dec_dig c (by omega) (by omega)]
  rw [hi]
  obtain ⟨t, ht⟩ : ∃ t : ByteArray, t = ⟨(dig c).toArray⟩ := ⟨_, rfl⟩
  have hsz : t.size ≤ 3 := by
    obtain ⟨t', e1, _, e3, _⟩ := rc_shape c h hc
    rw [rcL, if_neg (by omega)] at e1
    have := List.append_cancel_left e1
    rw [ht]
    show (dig c).toArray.size ≤ 3
    rw [List.size_toArray, this]
    exact e3
  rw [← ht]
  have HT2 : Hid (t = ⟨(dig c).toArray⟩) := ht
  clear ht hi
  go_wp2
  go_ret
  exact retStr (by rw [HT2.out]; exact rc_long c h) hB

/-- A mnemonic's text is of capital letters. -/
theorem name_up (c : Nat) (h : c < 11) : 0 < (rc c).size ∧ (rc c).size ≤ 100 ∧ ∀ k (hk : k < (rc c).size), 65 ≤ (rc c)[k].toNat ∧ (rc c)[k].toNat ≤ 90 := by
  have key : ∀ x : Fin 11, 0 < (rcL x.val).length ∧ (rcL x.val).length ≤ 100 ∧ ∀ y ∈ rcL x.val, 65 ≤ y.toNat ∧ y.toNat ≤ 90 := by decide +kernel
  obtain ⟨k1, k2, k3⟩ := key ⟨c, h⟩
  have hs : (rc c).size = (rcL c).length := rfl
  refine ⟨by rw [hs]; exact k1, by rw [hs]; exact k2, fun k hk => k3 _ ?_⟩
  have : (rc c)[k] = (rcL c)[k]'(by rw [← hs]; exact hk) := rfl
  rw [this]
  exact List.getElem_mem _

theorem retTrueB {w : World} {b : Bool} (hb : b = true) : RetTrue w (.returned (.bool b)) w := ⟨by rw [hb], Below.refl _ _⟩

set_option maxHeartbeats 1000000 in
theorem shape6s (c : Nat) (h : c < 11) (w : World) : Calls Tryd.prog 6 #[.int .u8 c, .string (rc c)] w fun e w' => RetTrue w e w' := by
  rcases elevens c h with rfl | rfl | rfl | rfl | rfl | rfl | rfl | rfl | rfl | rfl | rfl
  all_goals
    obtain ⟨n1, n2, n3⟩ := name_up _ h
    have HN : Hid (∀ w, Calls Tryd.prog 12 #[.string (rc _)] w fun e w' => RetTrue w e w') := fun w => all12 _ n1 n2 n3 w
    clear n1 n2 n3
    go_enter Tryd.func6, Tryd.ntmps6
    go_wp2_with (go_at_call 12; refine (HN.out _).mono ?_; rintro e w' ⟨rfl, hb⟩)
    first
      | (go_ret; exact retTrue hb)
      | (go_ret; exact retTrueB (by rw [ByteArray.toList_eq]; rfl))

/-- The text of a code from 11 on: RCODE, then its numeral. -/
theorem rc_parts (c : Nat) (h1 : 11 ≤ c) (h2 : c < 256) :
    7 ≤ (rc c).size ∧ (rc c).size ≤ 8 ∧ (∀ k (hp : k < (⟨#[82, 67, 79, 68, 69]⟩ : ByteArray).size) (hk : k < (rc c).size), (rc c)[k] = (⟨#[82, 67, 79, 68, 69]⟩ : ByteArray)[k]) ∧
    ((rc c).extract 5 (rc c).size).size = (rc c).size - 5 ∧ (∀ x ∈ ((rc c).extract 5 (rc c).size).data.toList, 48 ≤ x.toNat ∧ x.toNat ≤ 57) ∧
    (∀ x, ((rc c).extract 5 (rc c).size).data.toList.head? = some x → x.toNat ≠ 48) ∧ val ((rc c).extract 5 (rc c).size).data.toList = c := by
  obtain ⟨t, e1, e2, e3, e4, e5, e6⟩ := rc_shape c h1 h2
  have hs : (rc c).size = 5 + t.length := by
    show (rcL c).toArray.size = _
    rw [List.size_toArray, e1, List.length_append]
    rfl
  have hx : ((rc c).extract 5 (rc c).size).data.toList = t := by
    simp only [ByteArray.data_extract]
    rw [hs]
    show (((rcL c).toArray).extract 5 (5 + t.length)).toList = t
    rw [e1]
    simp
  have hsz : ((rc c).extract 5 (rc c).size).size = (rc c).size - 5 := by simp
  refine ⟨by omega, by omega, fun k hp hk => ?_, hsz, by rw [hx]; exact e4, by rw [hx]; exact e5, by rw [hx]; exact e6⟩
  have hk5 : k < 5 := hp
  have e : (rc c).data[k]? = (⟨#[82, 67, 79, 68, 69]⟩ : ByteArray).data[k]? := by
    show (rcL c).toArray[k]? = #[82, 67, 79, 68, 69][k]?
    rw [e1, List.getElem?_toArray, List.getElem?_append_left (by simpa using hk5)]
    simp
  have f1 : (rc c).data[k]? = some (rc c)[k] := Array.getElem?_eq_getElem hk
  have f2 : (⟨#[82, 67, 79, 68, 69]⟩ : ByteArray).data[k]? = some (⟨#[82, 67, 79, 68, 69]⟩ : ByteArray)[k] := Array.getElem?_eq_getElem hp
  rw [f1, f2] at e
  exact Option.some.inj e

set_option maxHeartbeats 1000000 in
theorem shape6l (c : Nat) (h : 11 ≤ c) (hc : c < 256) (w : World) : Calls Tryd.prog 6 #[.int .u8 c, .string (rc c)] w fun e w' => RetTrue w e w' := by
  obtain ⟨p1, p2, p3, p4, p5, p6, p7⟩ := rc_parts c h hc
  obtain ⟨s, hs⟩ : ∃ s, s = rc c := ⟨_, rfl⟩
  rw [← hs] at p1 p2 p3 p4 p5 p6 p7 ⊢
  have HP : Hid (∀ w, Calls Tryd.prog 10 #[.string s, .string ⟨#[82, 67, 79, 68, 69]⟩] w fun e w' => RetTrue w e w') := fun w => pre10 s _ (by show 5 ≤ s.size; omega) (by omega) p3 w
  have HD : Hid (∀ w, Calls Tryd.prog 11 #[.string (s.extract 5 s.size)] w fun e w' => RetNum w (c : Int) e w') := fun w => by
    have := dec11 (s.extract 5 s.size) (by omega) (by omega) p5 p6 w
    rw [p7] at this
    exact this
  clear hs p3 p4 p5 p6 p7
  go_enter Tryd.func6, Tryd.ntmps6
  go_wp2_with fail
  refine (HP.out _).mono ?_
  rintro e w1 ⟨rfl, hb1⟩
  go_wp2_with fail
  refine (HD.out _).mono ?_
  rintro e w2 ⟨rfl, hb2⟩
  have hB : Below w.heap.size w w2 := hb1.trans (hb2.mono hb1.size)
  go_wp2_with fail
  go_ret
  exact retTrue hB

theorem rcode5 (c : Nat) (hc : c < 256) (w : World) (ht : Tab w) : Calls Tryd.prog 5 #[.int .u8 c] w fun e w' => RetStr w (rc c) e w' := by
  by_cases h : c < 11
  · exact rcode5s c h w
  · exact rcode5l c (by omega) hc w ht
theorem shape6 (c : Nat) (hc : c < 256) (w : World) : Calls Tryd.prog 6 #[.int .u8 c, .string (rc c)] w fun e w' => RetTrue w e w' := by
  by_cases h : c < 11
  · exact shape6s c h w
  · exact shape6l c (by omega) hc w

theorem globalPow : Tryd.prog.globalNamed Tryd.powName = some 0 := by kernel_rfl

set_option maxHeartbeats 1000000 in
theorem law3 (a b : Nat) (ha : a < 256) (hb : b < 256) (w : World) (ht : Tab w) : Calls Tryd.prog 3 #[.int .u8 a, .int .u8 b] w fun e w' => RetTrue w e w' := by
  have HT : Hid (Tab w) := ht
  clear ht
  have HE : Hid ((((a : Int) == (b : Int)) = true ∧ ((rc a).toList == (rc b).toList) = true) ∨ (((a : Int) == (b : Int)) = false ∧ ((rc a).toList == (rc b).toList) = false)) := by
    unfold Hid
    by_cases e : a = b
    · subst e
      exact .inl ⟨by simp, by simp⟩
    · refine .inr ⟨beq_eq_false_iff_ne.2 (by omega), beq_eq_false_iff_ne.2 (fun h => e (rc_inj ha hb ?_))⟩
      rw [ByteArray.toList_eq, ByteArray.toList_eq] at h
      exact ByteArray.ext (Array.ext' h)
  go_enter Tryd.func3, Tryd.ntmps3
  go_wp2_with fail
  refine (rcode5 a ha w HT.out).mono ?_
  rintro e w1 ⟨rfl, hb1⟩
  have HT1 : Hid (Tab w1) := Joins.tab_stays globalPow HT.out hb1 (Nat.le_refl _)
  go_wp2_with fail
  refine (rcode5 b hb w1 HT1.out).mono ?_
  rintro e w2 ⟨rfl, hb2⟩
  have hB2 : Below w.heap.size w w2 := hb1.trans (hb2.mono hb1.size)
  clear hb1 hb2
  rcases HE.out with ⟨e1, e2⟩ | ⟨e1, e2⟩
  all_goals
    go_wp2_with fail
    refine (shape6 a ha w2).mono ?_
    rintro e w3 ⟨rfl, hb3⟩
    have hB3 : Below w.heap.size w w3 := hB2.trans (hb3.mono hB2.size)
    go_wp2_with fail
    refine (shape6 b hb w3).mono ?_
    rintro e w4 ⟨rfl, hb4⟩
    have hB4 : Below w.heap.size w w4 := hB3.trans (hb4.mono hB3.size)
    go_wp2_with fail
    go_ret
    exact retTrue hB4

end Go.Proofs.Qxb6003358aDoor
