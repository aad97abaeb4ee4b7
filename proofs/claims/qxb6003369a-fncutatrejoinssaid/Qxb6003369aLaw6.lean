/-
  The walk of 'FnCutAtRejoins'.
-/
import Derived.Test.Qxb6003369aCut
namespace Go.Proofs.Qxb6003369a
open Go.RowKit

/-- Offsets as cells. -/
def iv (L : List Nat) : List Value := L.map fun (n : Nat) => .int .i64 (n : Int)

/-- The offsets gathered so far: increasing, below k. -/
def IncL (L : List Nat) (k : Nat) : Prop := Inc (fun j => L.getD j 0) L.length k

theorem incL_nil (k : Nat) : IncL [] k := fun j hj => by simp at hj

theorem incL_mono {L : List Nat} {k : Nat} (h : IncL L k) : IncL L (k + 1) := fun j hj => ⟨(h j hj).1, Nat.lt_succ_of_lt (h j hj).2⟩

theorem incL_snoc {L : List Nat} {k : Nat} (h : IncL L k) : IncL (L ++ [k]) (k + 1) := by
  intro j hj
  have hl : ∀ i, i < L.length → (L ++ [k]).getD i 0 = L.getD i 0 := fun i hi => by simp [List.getD, List.getElem?_append_left hi]
  have hst : ∀ i, i ≤ L.length → st (fun j => (L ++ [k]).getD j 0) i = st (fun j => L.getD j 0) i := by
    intro i hi
    cases i with
    | zero => rfl
    | succ i => simp only [st]; rw [hl i (by omega)]
  simp only [List.length_append, List.length_cons, List.length_nil] at hj
  by_cases e : j = L.length
  · subst e
    have hk : (L ++ [k]).getD L.length 0 = k := by simp [List.getD]
    rw [hst _ (Nat.le_refl _)]
    simp only [hk]
    refine ⟨?_, by omega⟩
    cases hn : L.length with
    | zero => exact Nat.zero_le _
    | succ i =>
      have h2 : L.getD i 0 < k := (h i (by omega)).2
      simp only [st]
      omega
  · have h1 : st (fun j => L.getD j 0) j ≤ L.getD j 0 := (h j (by omega)).1
    have h2 : L.getD j 0 < k := (h j (by omega)).2
    rw [hst _ (by omega)]
    simp only [hl j (by omega)]
    exact ⟨h1, by omega⟩

/-- What the gathering loop leaves. -/
theorem stars_out {w wr : World} {L : List Nat} {k : Nat} {v : Value} (ho : wr.ownsRow w.heap.size 3 1 v L.length (iv L)) (hI : IncL L k) :
    ∃ ao cap c A, v = .slice ao c cap ∧ At wr ao c (fun i => .int .i64 ((A i : Nat) : Int)) ∧ Inc A c k ∧ c = L.length := by
  have h0 := ho
  rcases h0.2 with ⟨rfl, hn⟩ | ⟨g, cap, cur, rfl, _⟩
  · exact ⟨none, 0, 0, fun j => L.getD j 0, rfl, .inl rfl, fun j hj => by omega, hn.symm⟩
  · refine ⟨some ⟨g, 0, none⟩, cap, L.length, fun j => L.getD j 0, rfl, (At.owned ho).congr fun i hi => ?_, hI, rfl⟩
    simp [iv, List.getD, hi]

/-- Bytes as cells. -/
def bv (l : List UInt8) : List Value := l.map fun b => .int .u8 (b.toNat : Int)

theorem extract_toList (s : ByteArray) (a b : Nat) : (s.extract a b).data.toList = (s.data.toList.drop a).take (b - a) := by
  simp [ByteArray.data_extract]
theorem take_extract (s : ByteArray) {a b : Nat} (h : a ≤ b) : s.data.toList.take a ++ (s.extract a b).data.toList = s.data.toList.take b := by
  rw [extract_toList]
  have := List.take_add (l := s.data.toList) (i := a) (j := b - a)
  rw [show a + (b - a) = b by omega] at this
  exact this.symm
theorem take_snoc (s : ByteArray) (k : Nat) (h : k < s.size) : s.data.toList.take (k + 1) = s.data.toList.take k ++ [s[k]] := by
  rw [List.take_succ_eq_append_getElem (by simpa using h)]; rfl
theorem take_full (s : ByteArray) : s.data.toList.take s.size = s.data.toList := List.take_of_length_le (by simp)
theorem pc_size (s : ByteArray) (A : Nat → Nat) {c j : Nat} (hA : Inc A c s.size) : (pc s A c j).size = (if j < c then A j else s.size) - st A j := by
  unfold pc
  have : (if j < c then A j else s.size) ≤ s.size := by split <;> (try have := (hA j (by assumption)).2) <;> omega
  simp only [ByteArray.size_extract]
  omega

/-- The bytes of a slice of the call's own, as a string. -/
theorem conv_own {w : World} {base g cap : Nat} {l : List UInt8} (h : w.ownsRow base 5 1 (.slice (some ⟨g, 0, none⟩) l.length cap) l.length (bv l)) :
    (convert 39 9 (.slice (some ⟨g, 0, none⟩) l.length cap)).run Try.prog w = .ok (.string ⟨l.toArray⟩) w := by
  have := run_convert_bytes_arg (P := Try.prog) w 39 5 Try.underlying39 Try.underlying5 g 0 l.length cap (l.map fun c => (c.toNat : Int)) (by simp) (fun i hi => by
    rw [Nat.zero_add, h.cellAt i (by omega)]
    simp [bv, List.getD, hi]) 9 Try.underlying9
  rw [this]
  congr 2
  simp [strOfNums, Function.comp_def]

set_option maxRecDepth 100000 in
set_option maxHeartbeats 4000000 in
theorem law6 (s : ByteArray) (ao : Option Addr) (m cap : Nat) (FL : Nat → Bool) (w : World) (hs : s.size ≤ maxLen) (h : At w ao m (fun i => .bool (FL i))) (hm : m ≤ maxLen) :
    Calls Try.prog 6 #[.string s, .slice ao m cap] w fun e w' => LawPost w e w' := by
  obtain ⟨i3, hi3, hz30, hz31, hz32⟩ := info_parts info3
  obtain ⟨i5, hi5, hz50, hz51, hz52⟩ := info_parts info5
  go_enter Try.func6, Try.ntmps6
  go_wp2_with fail
  refine (zz17 s ao m cap _ hs hm).mono ?_
  rintro e w' ⟨⟨b, rfl⟩, hw'⟩
  subst hw'
  cases b with
  | false =>
    go_wp2
    go_ret
    exact lawPost (Below.refl _ _)
  | true =>
    rename World => w0
    by_cases h65 : s.size ≤ 65536
    · by_cases m65 : m ≤ 65536
      · go_wp2_with fail
        refine (clone18 ao m cap FL _ h m65).mono ?_
        rintro e w1 ⟨ao1, cap1, rfl, hcap1, hf1, hb1⟩
        clear h hs hm
        go_wp2_with fail
        go_loopg [5, 6] s.size (fun gk v si wr => ∃ (k : Nat) (L : List Nat), k + gk = s.size ∧ si = .int .i64 k ∧ wr.ownsRow w1.heap.size 3 1 v L.length (iv L) ∧ IncL L k ∧ L.length ≤ k ∧ Below w1.heap.size w1 wr)
        case atStart => exact ⟨0, [], by omega, rfl, World.ownsRow_nil _ _ _ _, incL_nil _, by simp, Below.refl _ _⟩
        case round =>
          obtain ⟨k, L, hk, rfl, hown, hI, hLk, hnx⟩ := hrel
          have HK : Hid (k + gk = s.size) := hk
          by_cases hlt : k < s.size ∧ k < m
          · obtain ⟨hks, hkm⟩ := hlt
            obtain ⟨b1, o1, ha1, hl1, hc1⟩ := (hf1.below hnx).pos hkm
            subst ha1
            have hck := hc1 k hkm
            have HI : Hid (IncL L k) := hI
            clear hc1 hI hk
            cases hfl : FL k with
            | true =>
              rw [hfl] at hck
              clear hfl
              go_wp2_with (at_builtin; refine wpList_append_own _ rfl (.tmp 42) (.tmp 44) 30 rfl w1.heap.size 3 i3 (.int .i64 0) 1 8 Try.underlying30 hi3 hz30 hz31 hz32 rfl (by decide) _ L.length _ rfl (hown.alloc _) ⟨wr.heap.size, 0, none⟩ 1 1 [.int .i64 (k : Int)] rfl rfl (cell_one_new _ _ _) (by intro u hu; simp at hu; subst hu; rfl) (by unfold maxLen; omega) (by omega) (by have := hnx.size; simp; omega) ?_; intro v1 w2 hown1 hgrow1 _)
              have HO : Hid (w2.ownsRow w1.heap.size 3 1 v1 (L ++ [k]).length (iv (L ++ [k]))) := by
                unfold Hid
                simpa [iv] using hown1
              have hB2 := (hnx.alloc hnx.size (.cells #[.int .i64 (k : Int)] 3)).grown hgrow1 (by simp; have := hnx.size; omega) (fun x hx => (hown.lt x hx).1)
              clear hown1 hgrow1 hown
              go_wp2_with fail
              go_roundg (gk - 1)
              case measure => have := HK.out; omega
              case rel => exact ⟨k + 1, L ++ [k], by have := HK.out; omega, by go_num, HO.out, incL_snoc HI.out, by simp; omega, hB2⟩
            | false =>
              rw [hfl] at hck
              clear hfl
              go_wp2_with fail
              go_roundg (gk - 1)
              case measure => have := HK.out; omega
              case rel => exact ⟨k + 1, L, by have := HK.out; omega, by go_num, hown, incL_mono HI.out, by omega, hnx⟩
          · have hIs : IncL L s.size := fun j hj => ⟨(hI j hj).1, by have := (hI j hj).2; omega⟩
            obtain ⟨ao5, cap5, c, A, hv, hat, hInc, hcl⟩ := stars_out hown hIs
            have hc65 : c ≤ 65536 := by omega
            have hB5 : Below w0.heap.size w0 wr := hb1.trans (hnx.mono hb1.size)
            subst hv
            have q37 : ∀ (w : World) (a : Option Addr) (n c n' c' : Nat), (binOp .eql 37 (.slice a n c) (.slice none n' c')).run Try.prog w = .ok (.bool a.isNone) w :=
              fun w a n c n' c' => Lib.run_eql_slice_nil w 37 9 a n c n' c' Try.underlying37
            clear hown hI hIs hLk hnx hf1 hb1 hcl hk HK
            by_cases hc0 : c = 0
            · subst hc0
              by_cases hks : k < s.size
              all_goals
                go_wp2_with fail
                refine (cut19z s ao5 cap5 wr).mono ?_
                rintro e w9 ⟨rfl, rfl⟩
                go_wp2_with fail
                go_ret
                exact lawPost hB5
            · have hc1 : 1 ≤ c := by omega
              have hzc : ((c : Int) == 0) = false := beq_eq_false_iff_ne.2 (by omega)
              clear hc0
              by_cases hks : k < s.size
              all_goals
                go_wp2_with fail
                refine (cut19 s ao5 c cap5 A wr hat hInc hc1 hc65 h65).mono ?_
                rintro e w7 ⟨ao7, cap7, rfl, hcap7, hp7, hb7⟩
                have hs7 := hat.below hb7
                have hB7 : Below w0.heap.size w0 w7 := hB5.trans (hb7.mono hB5.size)
                clear hb7
                go_wp2_with fail
                go_loopg [8, 9, 10, 11] (c + 1) (fun gk v sp sj _ wr => ∃ (j : Nat) (l : List UInt8) (pv : Int), j + gk = c + 1 ∧ sj = .int .i64 j ∧ sp = .int .i64 pv ∧ -1 ≤ pv ∧ pv ≤ 65536 ∧ Hid (j ≤ c → pv = (st A j : Int) - 1) ∧ wr.ownsRow w7.heap.size 5 1 v l.length (bv l) ∧ Hid (l = s.data.toList.take (if j ≤ c then st A j else s.size)) ∧ Below w7.heap.size w7 wr)
                case atStart => exact ⟨0, [], -1, by omega, rfl, rfl, by omega, by omega, fun _ => rfl, World.ownsRow_nil _ _ _ _, by simp [Hid, st], Below.refl _ _⟩
                case round =>
                  obtain ⟨j, l, pv, hj, rfl, rfl, hpv1, hpv2, HPV, hown, HL, hnx⟩ := hrel
                  rename World => wj
                  have HJ : Hid (j + gk = c + 1) := hj
                  clear hj
                  by_cases hjc : j < c + 1
                  · obtain ⟨b7, o7, ha7, hl7, hc7⟩ := (hp7.below hnx).pos hjc
                    subst ha7
                    obtain ⟨b5, o5, ha5, hl5, hc5⟩ := hs7.pos (show 0 < c by omega)
                    subst ha5
                    obtain ⟨t, ht⟩ : ∃ t, t = pc s A c j := ⟨_, rfl⟩
                    have g7 : wj.cell? ⟨b7, o7 + j, none⟩ = some (.string t) := by rw [ht]; exact hc7 j hjc
                    have hst := st_le hInc (show j ≤ c by omega)
                    have hpv := HPV.out (by omega)
                    have hll : l.length = st A j := by rw [HL.out, if_pos (show j ≤ c by omega)]; simp; omega
                    have htz : t.size = (if j < c then A j else s.size) - st A j := by rw [ht]; exact pc_size s A hInc
                    have HT : Hid (t = pc s A c j) := ht
                    clear ht hc7
                    by_cases hlt : j < c
                    · obtain ⟨ha1, ha2⟩ := hInc j hlt
                      have htz' : t.size = A j - st A j := by rw [htz, if_pos hlt]
                      have z1 : (t.size : Int) ≤ (A j : Int) - pv - 1 := by omega
                      have z2 : (A j : Int) - pv - 1 ≤ (t.size : Int) := by omega
                      have z3 : l.length + t.size ≤ 65536 := by omega
                      have g5 : ∀ wx, Below w7.heap.size w7 wx → wx.cell? ⟨b5, o5 + j, none⟩ = some (.int .i64 (A j : Int)) := fun wx hx => (hx.cell (by exact hl5)).trans (hc5 j hlt)
                      have HG5 : Hid (∀ wx, Below w7.heap.size w7 wx → wx.cell? ⟨b5, o5 + j, none⟩ = some (.int .i64 (A j : Int))) := g5
                      have g5j := g5 wj hnx
                      clear g5 hc5 htz htz' hpv hll
                      go_wp2_with (first | (at_builtin; refine Lib.wpList_append_own_string _ rfl (.tmp 86) (.tmp 90) 39 9 rfl w7.heap.size 5 i5 Try.underlying39 Try.underlying9 hi5 hz50 hz51 hz52 _ l.length _ rfl hown t rfl (by unfold maxLen; omega) (by omega) hnx.size ?_; intro v1 wA hownA hgrowA _; have hBA := hnx.grown hgrowA hnx.size (fun x hx => (hown.lt x hx).1); have g5A := HG5.out wA hBA) | (at_builtin; refine wpList_append_own _ rfl (.tmp 96) (.tmp 103) 39 rfl w7.heap.size 5 i5 (.int .u8 0) 1 1 Try.underlying39 hi5 hz50 hz51 hz52 rfl (by decide) _ (l.length + t.size) _ rfl (hownA.alloc _) ⟨wA.heap.size, 0, none⟩ 1 1 [.int .u8 (s[A j].toNat : Int)] rfl rfl (cell_one_new _ _ _) (by intro u hu; simp at hu; subst hu; rfl) (by unfold maxLen; omega) (by omega) (by have := hBA.size; simp; omega) ?_; intro v2 wB hownB hgrowB _; have hBB := (hBA.alloc hBA.size (.cells #[.int .u8 (s[A j].toNat : Int)] 5)).grown hgrowB (by simp; have := hBA.size; omega) (fun x hx => (hownA.lt x hx).1); have g5B := HG5.out wB hBB))
                      have HO : Hid (wB.ownsRow w7.heap.size 5 1 v2 (l ++ t.data.toList ++ [s[A j]]).length (bv (l ++ t.data.toList ++ [s[A j]]))) := by
                        unfold Hid
                        have e : (l ++ t.data.toList ++ [s[A j]]).length = l.length + t.size + 1 := by simp only [List.length_append, Array.length_toList, ByteArray.size_data, List.length_cons, List.length_nil]
                        rw [e]
                        simpa [bv, Lib.strCells] using hownB
                      go_roundg (gk - 1)
                      case measure => have := HJ.out; omega
                      case rel =>
                        refine ⟨j + 1, l ++ t.data.toList ++ [s[A j]], (A j : Int), by have := HJ.out; omega, by go_num, rfl, by omega, by omega, fun _ => by simp [st], HO.out, ?_, hBB⟩
                        unfold Hid
                        rw [if_pos (show j + 1 ≤ c by omega)]
                        show _ = s.data.toList.take (A j + 1)
                        rw [take_snoc s (A j) ha2, HL.out, if_pos (show j ≤ c by omega), HT.out, pc, if_pos hlt, take_extract s ha1]
                    · have hje : j = c := by omega
                      have htz' : t.size = s.size - st A j := by rw [htz, if_neg hlt]
                      have z1 : (t.size : Int) ≤ (s.size : Int) - pv - 1 := by omega
                      have z2 : (s.size : Int) - pv - 1 ≤ (t.size : Int) := by omega
                      have z3 : l.length + t.size ≤ 65536 := by omega
                      clear hc5 htz htz' hpv hll hje
                      go_wp2_with (at_builtin; refine Lib.wpList_append_own_string _ rfl (.tmp 86) (.tmp 90) 39 9 rfl w7.heap.size 5 i5 Try.underlying39 Try.underlying9 hi5 hz50 hz51 hz52 _ l.length _ rfl hown t rfl (by unfold maxLen; omega) (by omega) hnx.size ?_; intro v1 wA hownA hgrowA _; have hBA := hnx.grown hgrowA hnx.size (fun x hx => (hown.lt x hx).1))
                      have HO : Hid (wA.ownsRow w7.heap.size 5 1 v1 (l ++ t.data.toList).length (bv (l ++ t.data.toList))) := by
                        unfold Hid
                        have e : (l ++ t.data.toList).length = l.length + t.size := by simp
                        rw [e]
                        simpa [bv, Lib.strCells] using hownA
                      go_roundg (gk - 1)
                      case measure => have := HJ.out; omega
                      case rel =>
                        refine ⟨j + 1, l ++ t.data.toList, pv, by have := HJ.out; omega, by go_num, rfl, by omega, by omega, fun h => by omega, HO.out, ?_, hBA⟩
                        unfold Hid
                        rw [if_neg (show ¬ j + 1 ≤ c by omega), HL.out, if_pos (show j ≤ c by omega), HT.out, pc, if_neg hlt, take_extract s (st_le hInc (show j ≤ c by omega))]
                  · have hl : l = s.data.toList := by rw [HL.out, if_neg (by omega), take_full]
                    have hn0 : l.length ≠ 0 := by
                      have h0 := (hInc 0 (by omega)).2
                      have e : s.data.toList.length = s.size := by simp
                      rw [hl, e]
                      omega
                    rcases hown.2 with ⟨_, hn⟩ | ⟨g, capg, cur, hvg, _⟩
                    · exact absurd hn hn0
                    · subst hvg
                      have hcv := conv_own hown
                      have hss : (⟨l.toArray⟩ : ByteArray) = s := by rw [hl]
                      rw [hss] at hcv
                      have hB8 : Below w0.heap.size w0 wj := hB7.trans (hnx.mono hB7.size)
                      clear hl hn0 hss hown
                      go_wp2_with fail
                      go_ret
                      exact lawPostB (by simp) hB8
      · go_wp2
        go_ret
        exact lawPost (Below.refl _ _)
    · go_wp2
      go_ret
      exact lawPost (Below.refl _ _)

end Go.Proofs.Qxb6003369a
