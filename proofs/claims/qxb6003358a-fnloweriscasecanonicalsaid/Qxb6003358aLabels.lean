/-
  'Name' from its wire form; 'Labels'.
-/
import Derived.Test.Qxb6003358aBuild
namespace Go.Proofs.Qxb6003358a
open Go.RowKit

/-- append onto a slice of the call's own, as one step of a region that draws. -/
theorem step_append_mine {P : Program} {ops : Array Oper} {o : Oper} {a : Act} {w : World} {K : Act → World → Prop} {Q : Exit → Act → World → Prop} {E : Prop}
    (hgd : o.guard = none) (s x : Operand) (t : TypeId) (ho : o.op = Op.call { callee := Callee.builtin Builtin.append, args := #[s, x], argTypes := #[t, t] })
    (base : Nat) (e : TypeId) (i : TypeInfo) (z : Value) (size bytes : Nat) (ht : P.underlying t = some (.slice e)) (hi : P.info? e = some i) (hz : i.zero = some z)
    (hsize : i.size = size) (hby : i.bytes = bytes) (hzs : z.cells.size = size) (hsz : 0 < size)
    (v : Value) (n : Nat) (xs : List Value) (hs : a.eval s = v) (hown : w.ownsRow base e size v n xs)
    (ad : Addr) (m c : Nat) (news : List Value) (hx : a.eval x = .slice (some ad) m c) (hl : news.length = m * size) (hnews : ∀ j u, news[j]? = some u → w.cell? (ad.add j) = some u) (h1 : ∀ u ∈ news, u.oneCell' = true)
    (h63 : n + m ≤ maxLen) (hbytes : (n + m) * bytes ≤ 140737488355328) (hbase : base ≤ w.heap.size)
    (h : ∀ v' w', w'.ownsRow base e size v' (n + m) (xs ++ news) → w.grownBy w' v.ownBlock → (v' = .slice none 0 0 ↔ v = .slice none 0 0 ∧ m = 0) → K (a.put o.dst v') w') :
    if Region.wanted o (yielded ops a.tmps) = true then Oper.wp P o a w K Q else E := by
  have hw : Region.wanted o (yielded ops a.tmps) = true := by simp [Region.wanted, hgd]
  rw [if_pos hw]
  exact wp_append_own w s x t ho base e i z size bytes ht hi hz hsize hby hzs hsz v n xs hs hown ad m c news hx hl hnews h1 h63 hbytes hbase h

theorem wrapI (x : Int) (h1 : -9223372036854775808 ≤ x) (h2 : x ≤ 9223372036854775807) : IntKind.i64.wrap x = x := by
  rw [IntKind.wrap_i64]
  omega

theorem name10 (s : ByteArray) (w : World) : Calls Try.prog 10 #[.string s] w fun e w' => e = .returned (.agg #[.string s]) ∧ w' = w.alloc (.cells #[.string s] 29) := by
  go_enter Try.func10, Try.ntmps10
  go_wp2
  exact bodyPost_ret (v := .agg #[.string s]) (by simp [results, Try.results10, go_sem]) rfl ⟨rfl, rfl⟩

theorem labels_step {w wr w1 : World} {v : Value} {k : Nat} {xs : List Value} {s : ByteArray} {o : Obj} (hown : wr.ownsRow (w.heap.size + 1) 9 1 v k xs) (hcs : wr.cell? ⟨w.heap.size, 0, none⟩ = some (.string s))
    (hnx : Below w.heap.size w wr) (hsz : w.heap.size < wr.heap.size) (hg : (wr.drew.alloc o).grownBy w1 v.ownBlock) :
    w1.cell? ⟨w.heap.size, 0, none⟩ = some (.string s) ∧ Below w.heap.size w w1 ∧ w.heap.size < w1.heap.size := by
  have h1 : (wr.drew.alloc o).cell? ⟨w.heap.size, 0, none⟩ = some (.string s) := Lib.cell?_alloc_some o hcs
  have hl : ∀ k, v.ownBlock = some k → w.heap.size + 1 ≤ k := fun k hk => (hown.lt k hk).1
  refine ⟨hg.cell h1 (fun e => ?_), (hnx.drew.alloc hnx.size o).grown hg (by simp; omega) (fun k hk => by have := hl k hk; omega), ?_⟩
  · have := hl _ e.symm
    exact absurd this (Nat.not_succ_le_self _)
  · have := hg.size
    simp at this
    omega

theorem ret_of_owns {w wr : World} {v : Value} {n : Nat} {S : Nat → ByteArray} (hown : wr.ownsRow (w.heap.size + 1) 9 1 v n ((List.range n).map fun i => .string (S i))) (hnx : Below w.heap.size w wr) :
    RetStrs w n S (.returned v) wr := by
  have h0 := hown
  rcases h0.2 with ⟨rfl, rfl⟩ | ⟨g, cap, cur, rfl, hbg, hg, hnc, hcm, hcs, htake⟩
  · exact retStrs (Nat.le_refl _) (.inl rfl) hnx
  · refine retStrs hnc (.inr ⟨g, 0, rfl, (Array.getElem?_eq_some_iff.1 hg).1, fun i hi => ?_⟩) hnx
    rw [Nat.zero_add, hown.cellAt i (by omega)]
    simp [hi]

set_option maxHeartbeats 1000000 in
theorem labels11 (n : Nat) (S : Nat → ByteArray) (s : ByteArray) (hs : s = wireOf n S) (hG : Good n S) (w : World) :
    Calls Try.prog 11 #[.agg #[.string s]] w fun e w' => RetStrs w n S e w' := by
  obtain ⟨i0, hi, hz0, hz1, hz2⟩ := info_parts info9
  have HS : Hid (s = wireOf n S) := hs
  have hss : s.size = wlen S n := by rw [hs]; simp [wireOf, ByteArray.size, wl_length]
  have hG3 := hG.2.2
  have hG1 := hG.1
  have hssz : s.size ≤ 254 := by omega
  have HSS : Hid (s.size = wlen S n) := hss
  clear hs hss
  go_enter Try.func11, Try.ntmps11
  go_wp2
  go_loopg [3, 4] n (fun gk v i wr => ∃ (k p : Nat), k + gk = n ∧ i = .int .i64 p ∧ Hid (p = wlen S k) ∧ wr.ownsRow (w.heap.size + 1) 9 1 v k ((List.range k).map fun i => .string (S i)) ∧ wr.cell? ⟨w.heap.size, 0, none⟩ = some (.string s) ∧ Below w.heap.size w wr ∧ w.heap.size < wr.heap.size)
  case atStart => exact ⟨0, 0, by omega, rfl, rfl, World.ownsRow_nil _ _ _ _, by simp, (Below.refl _ _).alloc (Nat.le_refl _) _, by simp⟩
  case round =>
    obtain ⟨k, p, hk, rfl, HP, hown, hcs, hnx, hsz⟩ := hrel
    by_cases hlt : k < n
    · have hps : p < s.size := by have := wlen_step S hlt; rw [HP.out, HSS.out]; omega
      have HW := wire_at hG hlt HS.out HP.out hps
      have hpe : p + 1 + (s[p].toNat) ≤ s.size := by have := wlen_step S hlt; rw [HW.1, HP.out, HSS.out]; omega
      have HW' : Hid (s[p].toNat = (S k).size ∧ s.extract (p + 1) (p + 1 + (S k).size) = S k) := HW
      have HK : Hid (k + gk = n) := hk
      clear HW hk
      have hb := UInt8.toNat_lt s[p]
      have e1 := wrapI ((p : Int) + 1) (by omega) (by omega)
      have e2 := wrapI (s[p].toNat : Int) (by omega) (by omega)
      have e3 := wrapI ((p : Int) + 1 + s[p].toNat) (by omega) (by omega)
      have t1 : ((p : Int) + 1).toNat = p + 1 := by omega
      have t2 : ((p : Int) + 1 + s[p].toNat).toNat = p + 1 + s[p].toNat := by omega
      have q1 : 0 ≤ (p : Int) + 1 := by omega
      have q2 : 0 ≤ (p : Int) + 1 + s[p].toNat := by omega
      have q3 : (p : Int) + 1 + s[p].toNat ≤ s.size := by omega
      have q4 : (p : Int) + 1 ≤ (p : Int) + 1 + s[p].toNat := by omega
      go_wp2
      go_region_law (refine step_append_mine rfl (.tmp 18) (.tmp 32) 22 rfl (w.heap.size + 1) 9 i0 (.string ByteArray.empty) 1 16 Try.underlying22 hi hz0 hz1 hz2 rfl (by decide) _ k _ rfl (hown.drew.alloc _) ⟨wr.heap.size, 0, none⟩ 1 1 [.string (s.extract (p + 1) (p + 1 + s[p].toNat))] rfl rfl (cell_one_new _ _ _) (by intro u hu; simp at hu; subst hu; rfl) (by unfold maxLen; omega) (by omega) (by simp; omega) ?_; intro v' w1 hown1 hgrow1 _; obtain ⟨hc1, hn1, hz1'⟩ := labels_step hown hcs hnx hsz hgrow1)
      all_goals
        clear hown hcs hnx hgrow1
        go_wp2
        go_roundg (gk - 1)
        case measure => have := HK.out; omega
        case rel =>
          refine ⟨k + 1, p + 1 + s[p].toNat, by have := HK.out; omega, by go_num, ?_, ?_, hc1, hn1, hz1'⟩
          · unfold Hid; rw [HW'.out.1, HP.out]; rfl
          · rw [HW'.out.1, HW'.out.2] at hown1
            rw [List.range_succ, List.map_append]
            exact hown1
    · have hkn : k = n := by omega
      have hpe : ¬ p < s.size := by rw [HP.out, HSS.out, hkn]; omega
      rw [hkn] at hown
      have R := ret_of_owns hown hnx
      clear hown hkn
      go_wp2
      go_ret
      exact R

end Go.Proofs.Qxb6003358a
