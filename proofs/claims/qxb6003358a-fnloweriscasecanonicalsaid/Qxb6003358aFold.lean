/-
  What the third law calls besides: the count of bytes, 'cloneBools', 'isLetter', 'isUpper', 'EqualFold'.
-/
import Derived.Test.Qxb6003358aNames
namespace Go.Proofs.Qxb6003358a
open Go.RowKit

theorem info4 : (Try.prog.info? 4).map (fun i => (i.zero, i.size, i.bytes)) = some (some (.bool false), 1, 1) := by kernel_rfl
theorem cells4 : Try.prog.cellsOf 4 = 1 := by kernel_rfl

/-- A slice of n bools lies at 'ao'. -/
def BoolsAt (w : World) (ao : Option Addr) (n : Nat) (S : Nat → Bool) : Prop :=
  n = 0 ∨ ∃ b o, ao = some ⟨b, o, none⟩ ∧ b < w.heap.size ∧ ∀ i, i < n → w.cell? ⟨b, o + i, none⟩ = some (.bool (S i))

theorem BoolsAt.below {w w' : World} {ao : Option Addr} {n : Nat} {S : Nat → Bool} (h : BoolsAt w ao n S) (hb : Below w.heap.size w w') : BoolsAt w' ao n S := by
  rcases h with h | ⟨b, o, h1, h2, h3⟩
  · exact .inl h
  · exact .inr ⟨b, o, h1, Nat.lt_of_lt_of_le h2 hb.size, fun i hi => (hb.cell (by exact h2)).trans (h3 i hi)⟩

theorem BoolsAt.pos {w : World} {ao : Option Addr} {n k : Nat} {S : Nat → Bool} (h : BoolsAt w ao n S) (hk : k < n) :
    ∃ b o, ao = some ⟨b, o, none⟩ ∧ b < w.heap.size ∧ ∀ i, i < n → w.cell? ⟨b, o + i, none⟩ = some (.bool (S i)) := by
  rcases h with h | h
  · omega
  · exact h

/-- It handed back a slice of these n bools; below what was there nothing has turned. -/
def RetBools (w : World) (n : Nat) (S : Nat → Bool) (e : Ending) (w' : World) : Prop :=
  ∃ ao cap, e = .returned (.slice ao n cap) ∧ n ≤ cap ∧ BoolsAt w' ao n S ∧ Below w.heap.size w w'
theorem retBools {w w' : World} {n : Nat} {S : Nat → Bool} {ao : Option Addr} {cap : Nat} (h1 : n ≤ cap) (h2 : BoolsAt w' ao n S) (h3 : Below w.heap.size w w') :
    RetBools w n S (.returned (.slice ao n cap)) w' := ⟨ao, cap, rfl, h1, h2, h3⟩

theorem BoolsAt.row {w : World} {b n : Nat} {S : Nat → Bool} (h : w.rowIs b 4 n (fun i => .bool (S i))) : BoolsAt w (some ⟨b, 0, none⟩) n S :=
  .inr ⟨b, 0, rfl, h.lt, fun i hi => by rw [Nat.zero_add]; exact h.cell hi⟩

theorem cloneB_step {wr : World} {b n k : Nat} {S : Nat → Bool} {F : Nat → Value} (hr : wr.rowIs b 4 n F) (hF : ∀ i, i < k → F i = .bool (S i)) :
    ∃ F', (wr.setCell ⟨b, k, none⟩ (.bool (S k))).rowIs b 4 n F' ∧ ∀ i, i < k + 1 → F' i = .bool (S i) := by
  refine ⟨_, hr.set k _, fun i hi => ?_⟩
  by_cases e : i = k
  · simp [e]
  · simp only [if_neg e]
    exact hF i (by omega)

set_option maxHeartbeats 400000 in
/-- 'cloneBools': a new slice of the same bools. -/
theorem clone16 (ao : Option Addr) (n cap : Nat) (S : Nat → Bool) (w : World) (h : BoolsAt w ao n S) (hn : n ≤ 65536) :
    Calls Try.prog 16 #[.slice ao n cap] w fun e w' => RetBools w n S e w' := by
  have q : ∀ (w : World) (a : Option Addr) (n c n' c' : Nat), (binOp .eql 33 (.slice a n c) (.slice none n' c')).run Try.prog w = .ok (.bool a.isNone) w :=
    fun w a n c n' c' => Lib.run_eql_slice_nil w 33 4 a n c n' c' Try.underlying33
  have hmk := run_make_row' (P := Try.prog) 33 4 (.bool false) 1 Try.underlying33 info4 rfl .i64 .i64 n (by omega) (by omega)
  cases ao with
  | none =>
    have h0 : n = 0 := by
      rcases h with h | ⟨b, o, h, _⟩
      · exact h
      · cases h
    subst h0
    go_enter Try.func16, Try.ntmps16
    go_wp2
    go_ret
    exact retBools (Nat.le_refl _) (.inl rfl) (Below.refl _ _)
  | some a =>
    rcases h with h | ⟨b, o, ha, hb, hc⟩
    · have h0 : n ≤ 0 := by omega
      have HN : Hid (n = 0) := h
      clear h
      go_enter Try.func16, Try.ntmps16
      go_wp2
      refine wp_loop_rounds 1 ?_
      rw [rounds_succ]
      go_wp2
      go_ret
      exact retBools (Nat.le_refl _) (.inl HN.out) ((Below.refl _ _).alloc (Nat.le_refl _) _)
    · obtain rfl : a = ⟨b, o, none⟩ := by simpa using ha
      clear ha
      go_enter Try.func16, Try.ntmps16
      go_wp2
      go_loopg [4] n (fun gk i wr => ∃ (k : Nat) (F : Nat → Value), k + gk = n ∧ i = .int .i64 k ∧ wr.rowIs w.heap.size 4 n F ∧ (∀ i, i < k → F i = .bool (S i)) ∧ Below w.heap.size w wr)
      case atStart => exact ⟨0, _, by omega, rfl, World.rowIs_made _ _ _ _, fun i hi => by omega, (Below.refl _ _).alloc (Nat.le_refl _) _⟩
      case round =>
        obtain ⟨k, F, hk, rfl, hr, hF, hnx⟩ := hrel
        by_cases hlt : k < n
        · have hck : wr.cell? ⟨b, o + k, none⟩ = some (.bool (S k)) := (hnx.cell (by exact hb)).trans (hc k hlt)
          have hcr := hr.cell hlt
          have hfr := hr.frozen k
          have HK : Hid (k + gk = n) := hk
          have HR : Hid (wr.rowIs w.heap.size 4 n F ∧ ∀ i, i < k → F i = .bool (S i)) := ⟨hr, hF⟩
          clear hc hk hF hr q hmk
          go_wp2
          go_roundg (gk - 1)
          case measure => have := HK.out; omega
          case rel =>
            obtain ⟨F', h1, h2⟩ := cloneB_step HR.out.1 HR.out.2
            exact ⟨k + 1, F', by have := HK.out; omega, by go_num, h1, h2, hnx.setCell (Nat.le_refl _) _⟩
        · have hkn : k = n := by omega
          subst hkn
          clear q hmk
          go_wp2
          go_ret
          exact retBools (Nat.le_refl _) (BoolsAt.row (hr.congr hF)) hnx


set_option maxHeartbeats 400000 in
/-- 'zzBytes_FnLowerIsCaseCanonical': it reads, and answers some bool. -/
theorem zz15 (ao : Option Addr) (n cap : Nat) (S : Nat → ByteArray) (ao2 : Option Addr) (m cap2 : Nat) (w : World) (h : StrsAt w ao n S) (hn : n ≤ maxLen) (hS : ∀ i, (S i).size ≤ maxLen) (hm : m ≤ maxLen) :
    Calls Try.prog 15 #[.slice ao n cap, .slice ao2 m cap2] w fun e w' => RetBool e ∧ w' = w := by
  unfold maxLen at hn hS hm
  by_cases h1 : n ≤ 1048576
  · rcases h with h | ⟨b, o, rfl, hb, hc⟩
    · have hn0 : n ≤ 0 := by omega
      clear h
      go_enter Try.func15, Try.ntmps15
      go_wp2
      refine wp_loop_rounds 1 ?_
      rw [rounds_succ]
      go_wp2
      all_goals (go_ret; exact ⟨retBool _, rfl⟩)
    · go_enter Try.func15, Try.ntmps15
      go_wp2
      go_loop [5, 6] (fun t i => ∃ (k : Nat) (z : Int), k ≤ n ∧ i = .int .i64 k ∧ t = .int .i64 z ∧ 0 ≤ z ∧ z ≤ 1048576) (fun _ i => n - (intOf i).toNat)
      case atStart => exact ⟨0, n, Nat.zero_le _, rfl, rfl, by omega, by omega⟩
      case round =>
        obtain ⟨k, z, hk, rfl, rfl, hz0, hz1⟩ := hrel
        by_cases hlt : k < n
        · have hck := hc k hlt
          have hsk := hS k
          clear hc hS
          go_wp2
          all_goals first
            | (go_ret; exact ⟨retBool _, rfl⟩)
            | (go_round
               case rel => exact ⟨k + 1, z + (S k).size, by omega, by go_num, rfl, by omega, by omega⟩
               case measure => simp [intOf]; omega)
        · go_wp2
          all_goals (go_ret; exact ⟨retBool _, rfl⟩)
  · go_enter Try.func15, Try.ntmps15
    go_wp2
    go_ret
    exact ⟨retBool _, rfl⟩

/-- A capital letter. -/
def isUp (c : UInt8) : Bool := decide (65 ≤ c.toNat ∧ c.toNat ≤ 90)
/-- A letter. -/
def isLet (c : UInt8) : Bool := isUp c || decide (97 ≤ c.toNat ∧ c.toNat ≤ 122)

theorem ret_bool {a b : Bool} (h : a = b) : Ending.returned (.bool a) = .returned (.bool b) := by rw [h]

theorem up19 (c : UInt8) (w : World) : Calls Try.prog 19 #[.int .u8 c.toNat] w fun e w' => e = .returned (.bool (isUp c)) ∧ w' = w := by
  have hc := UInt8.toNat_lt c
  by_cases h1 : 65 ≤ c.toNat
  · by_cases h2 : c.toNat ≤ 90
    · have hu : isUp c = true := by simp [isUp, h1, h2]
      rw [hu]
      clear hu
      go_enter Try.func19, Try.ntmps19
      go_wp2
      go_ret
      exact ⟨ret_bool (decide_eq_true (by omega)), rfl⟩
    · have hu : isUp c = false := by simp [isUp]; omega
      rw [hu]
      clear hu
      go_enter Try.func19, Try.ntmps19
      go_wp2
      go_ret
      exact ⟨ret_bool (decide_eq_false (by omega)), rfl⟩
  · have hu : isUp c = false := by simp [isUp]; omega
    rw [hu]
    clear hu
    go_enter Try.func19, Try.ntmps19
    go_wp2
    go_ret
    exact ⟨rfl, rfl⟩

theorem letter17 (c : UInt8) (w : World) : Calls Try.prog 17 #[.int .u8 c.toNat] w fun e w' => e = .returned (.bool (isLet c)) ∧ w' = w := by
  have hc := UInt8.toNat_lt c
  unfold isLet
  cases hu : isUp c with
  | true =>
    go_enter Try.func17, Try.ntmps17
    go_wp2_with (go_at_call 19; refine (up19 _ _).mono ?_; rintro e w' ⟨rfl, rfl⟩)
    go_ret
    exact ⟨rfl, rfl⟩
  | false =>
    by_cases h1 : 97 ≤ c.toNat
    · by_cases h2 : c.toNat ≤ 122
      all_goals
        go_enter Try.func17, Try.ntmps17
        go_wp2_with (go_at_call 19; refine (up19 _ _).mono ?_; rintro e w' ⟨rfl, rfl⟩)
        go_ret
        exact ⟨ret_bool (by simp [h1, h2]; omega), rfl⟩
    · go_enter Try.func17, Try.ntmps17
      go_wp2_with (go_at_call 19; refine (up19 _ _).mono ?_; rintro e w' ⟨rfl, rfl⟩)
      go_ret
      exact ⟨ret_bool (by simp), rfl⟩

/-- Strings that fold alike have one length, and byte by byte fold alike. -/
theorem low_alike {a b : ByteArray} (h : lowA a = lowA b) : a.size = b.size := by rw [← lowA_size a, h, lowA_size]
theorem low_alike_at {a b : ByteArray} (h : lowA a = lowA b) {k : Nat} (ha : k < a.size) (hb : k < b.size) : lowB a[k] = lowB b[k] := by
  have h1 : (lowA a).data[k]? = (lowA b).data[k]? := by rw [h]
  have e1 : (lowA a).data[k]? = some (lowB a[k]) := by
    show (a.data.map lowB)[k]? = _
    rw [Array.getElem?_map, Array.getElem?_eq_getElem ha]
    rfl
  have e2 : (lowA b).data[k]? = some (lowB b[k]) := by
    show (b.data.map lowB)[k]? = _
    rw [Array.getElem?_map, Array.getElem?_eq_getElem hb]
    rfl
  rw [e1, e2] at h1
  exact Option.some.inj h1

/-- What 'EqualFold' leaves where the two fold alike. -/
def RetTrue (w : World) (e : Ending) (w' : World) : Prop := e = .returned (.bool true) ∧ Below w.heap.size w w'
theorem retTrue {w w' : World} (h : Below w.heap.size w w') : RetTrue w (.returned (.bool true)) w' := ⟨rfl, h⟩

set_option maxHeartbeats 1000000 in
theorem fold18 (a b : ByteArray) (h : lowA a = lowA b) (ha : a.size ≤ 254) (w : World) : Calls Try.prog 18 #[.agg #[.string a], .agg #[.string b]] w fun e w' => RetTrue w e w' := by
  have hsz := low_alike h
  have hat := fun k (ha : k < a.size) (hb : k < b.size) => low_alike_at h ha hb
  have HZ : Hid (a.size = b.size) := hsz
  have hs1 : a.size ≤ b.size := by omega
  have hs2 : b.size ≤ a.size := by omega
  clear h hsz
  go_enter Try.func18, Try.ntmps18
  go_wp2
  go_loopg [5] a.size (fun gk i wr => ∃ k : Nat, k + gk = a.size ∧ i = .int .i64 k ∧ Below (w.heap.size + 2) ((w.alloc (.cells #[.string a] 29)).alloc (.cells #[.string b] 29)) wr)
  case atStart => exact ⟨0, by omega, rfl, Below.refl _ _⟩
  case round =>
    obtain ⟨k, hk, rfl, hnx⟩ := hrel
    have c0 : wr.cell? ⟨w.heap.size, 0, none⟩ = some (.string a) := (hnx.cell (p := ⟨w.heap.size, 0, none⟩) (by simp)).trans (Lib.cell?_alloc_some _ (by simp))
    have c1 : wr.cell? ⟨w.heap.size + 1, 0, none⟩ = some (.string b) := (hnx.cell (p := ⟨w.heap.size + 1, 0, none⟩) (by simp)).trans (by
      have e : (w.alloc (.cells #[.string a] 29)).heap.size = w.heap.size + 1 := by simp
      rw [← e]
      simp)
    by_cases hlt : k < a.size
    · have hltb : k < b.size := by omega
      have he := hat k hlt hltb
      have q1 : (k : Int) < a.size := by omega
      have q2 : (k : Int) < b.size := by omega
      have HK : Hid (k + gk = a.size) := hk
      clear hat hk
      go_wp2
      go_quiet ((go_at_call 20; exact Calls.quiet_of_same (low20 _ _)))
      go_wp2
      go_roundg (gk - 1)
      case measure => have := HK.out; omega
      case rel => exact ⟨k + 1, by have := HK.out; omega, by go_num, below_drewN hnx _⟩
    · clear hat
      go_wp2
      go_ret
      exact retTrue ((((Below.refl _ _).alloc (Nat.le_refl _) _).alloc (by simp) _).trans (hnx.mono (by omega)))

end Go.Proofs.Qxb6003358a
