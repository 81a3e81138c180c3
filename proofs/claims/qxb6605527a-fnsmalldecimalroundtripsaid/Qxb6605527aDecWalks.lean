import Derived.Test.Qxb6605527aProg
import Derived.Test.Qxb6605527aDec
import Derived.WalkKit
import Derived.WalkSpells
import Derived.WalkLawsBesides
import Derived.Outline
namespace Go.Proofs.Qxb6605527a
open Go.RowKit

theorem ret_bool {a b : Bool} (h : a = b) : Ending.returned (.bool a) = .returned (.bool b) := by rw [h]
theorem ret_u64 {a b : Int} (h : a = b) : Ending.returned (.int .u64 a) = .returned (.int .u64 b) := by rw [h]
theorem take_snoc (s : ByteArray) (k : Nat) (h : k < s.size) : s.data.toList.take (k + 1) = s.data.toList.take k ++ [s[k]] := by
  rw [List.take_succ_eq_append_getElem (by simpa using h)]; rfl
theorem take_all (s : ByteArray) (k : Nat) (h : s.size ≤ k) : s.data.toList.take k = s.data.toList :=
  List.take_of_length_le (by simpa using h)
/-- a string of digits, each of which the walk tests -/
def digs (s : ByteArray) : Bool := s.data.toList.all Qd.dg
def digsTo (s : ByteArray) (k : Nat) : Bool := (s.data.toList.take k).all Qd.dg
theorem digs_bad (s : ByteArray) (k : Nat) (h : k < s.size) (hb : Qd.dg s[k] = false) : digs s = false := by
  unfold digs
  rw [← List.take_append_drop (k + 1) s.data.toList, List.all_append, take_snoc s k h, Qd.all_snoc, hb]
  simp
theorem digsTo_succ (s : ByteArray) (k : Nat) (h : k < s.size) : digsTo s (k + 1) = (digsTo s k && Qd.dg s[k]) := by
  unfold digsTo; rw [take_snoc s k h, Qd.all_snoc]
theorem digsTo_all (s : ByteArray) (k : Nat) (h : s.size ≤ k) : digsTo s k = digs s := by
  unfold digsTo digs; rw [take_all s k h]

theorem dg_int {c : UInt8} (h : Qd.dg c = true) : 48 ≤ (c.toNat : Int) ∧ (c.toNat : Int) ≤ 57 := by
  simp [Qd.dg] at h; omega
theorem ndg_int {c : UInt8} (h : Qd.dg c = false) : (c.toNat : Int) < 48 ∨ (57 : Int) < (c.toNat : Int) := by
  simp [Qd.dg] at h; omega
set_option maxHeartbeats 400000 in
theorem digitsOnly_any (s : ByteArray) (w : World) (hs : s.size ≤ maxLen) :
    Calls Try.prog 9 #[.string s] w fun e w' => e = .returned (.bool (digs s)) ∧ w' = w := by
  unfold maxLen at hs
  go_enter Try.func9, Try.ntmps9
  go_wp2
  go_loop [3] (fun i => ∃ k : Nat, k ≤ s.size ∧ i = .int .i64 k ∧ digsTo s k = true) (fun i => s.size - (intOf i).toNat)
  case atStart => exact ⟨0, Nat.zero_le _, rfl, rfl⟩
  case round =>
    obtain ⟨k, hk, rfl, hd⟩ := hrel
    have HD : Hid (digsTo s k = true) := hd
    clear hd
    by_cases hlt : k < s.size
    · by_cases hd : Qd.dg s[k] = true
      · have hd2 := dg_int hd
        have HD2 : Hid (Qd.dg s[k] = true) := hd
        clear hd
        go_wp2
        go_round
        case rel => exact ⟨k + 1, by omega, by go_num, by rw [digsTo_succ s k hlt, HD.out, HD2.out]; rfl⟩
        case measure => simp [intOf]; omega
      · have hf : Qd.dg s[k] = false := by simpa using hd
        have HB : Hid (digs s = false) := digs_bad s k hlt hf
        rcases ndg_int hf with h1 | h1
        · clear hd hf
          go_wp2
          go_ret
          exact ⟨ret_bool HB.out.symm, rfl⟩
        · clear hd hf
          go_wp2
          go_ret
          exact ⟨ret_bool HB.out.symm, rfl⟩
    · go_wp2
      go_ret
      exact ⟨ret_bool (by rw [← digsTo_all s k (by omega), HD.out]), rfl⟩

/-- what smallDecimal answers: the number, and whether it is one -/
def numTo (s : ByteArray) (k : Nat) : Nat := Qd.num (s.data.toList.take k)
theorem numTo_succ (s : ByteArray) (k : Nat) (h : k < s.size) : numTo s (k + 1) = numTo s k * 10 + Qd.dv s[k] := by
  unfold numTo; rw [take_snoc s k h, Qd.num_snoc]
theorem numTo_lt (s : ByteArray) (k : Nat) (hk : k ≤ s.size) (h : digsTo s k = true) : numTo s k < 10 ^ k := by
  have := Qd.num_lt _ h
  rw [List.length_take, Nat.min_eq_left (by simpa using hk)] at this
  exact this
theorem pow_small (k : Nat) (hk : k ≤ 8) : 10 ^ k ≤ 100000000 := by
  have : 10 ^ k ≤ 10 ^ 8 := Nat.pow_le_pow_right (by omega) hk
  simpa using this

set_option maxHeartbeats 400000 in
theorem small_yes (s : ByteArray) (w : World) (h1 : 1 ≤ s.size) (h9 : s.size ≤ 9) (hd : digs s = true) :
    Calls Try.prog 17 #[.string s] w fun e w' => e = .returned (.tuple #[.int .u64 (numTo s s.size), .bool true]) ∧ w' = w := by
  have HDS : Hid (digs s = true) := hd
  clear hd
  have hz : ((s.size : Int) == 0) = false := beq_eq_false_iff_ne.2 (by omega)
  have hne : ¬ s = ByteArray.empty := by intro h; subst h; simp at h1
  have h9' : (s.size : Int) ≤ 9 := by omega
  go_enter Try.func17, Try.ntmps17
  go_wp2
  go_loop [4, 5] (fun n i => ∃ k : Nat, k ≤ s.size ∧ i = .int .i64 k ∧ digsTo s k = true ∧ n = .int .u64 (numTo s k)) (fun _ i => s.size - (intOf i).toNat)
  case atStart => exact ⟨0, Nat.zero_le _, rfl, rfl, rfl⟩
  case round =>
    obtain ⟨k, hk, rfl, hd, rfl⟩ := hrel
    have HD : Hid (digsTo s k = true) := hd
    clear hd
    by_cases hlt : k < s.size
    · by_cases hd : Qd.dg s[k] = true
      · have hd2 := dg_int hd
        have HD2 : Hid (Qd.dg s[k] = true) := hd
        have hn : numTo s k < 100000000 := Nat.lt_of_lt_of_le (numTo_lt s k hk HD.out) (pow_small k (by omega))
        have HN : Hid (((numTo s (k + 1) : Nat) : Int) = (numTo s k : Int) * 10 + ((s[k].toNat : Int) - 48)) := by
          have hdv : Qd.dv s[k] = s[k].toNat - 48 := rfl
          refine (?_ : _ = _); rw [numTo_succ s k hlt, hdv]; omega
        clear hd
        go_wp2
        go_round
        case rel => exact ⟨k + 1, by omega, by go_num, by rw [digsTo_succ s k hlt, HD.out, HD2.out]; rfl, by rw [HN.out]⟩
        case measure => simp [intOf]; omega
      · have hf : Qd.dg s[k] = false := by simpa using hd
        exact absurd (digs_bad s k hlt hf) (by rw [HDS.out]; simp)
    · obtain rfl : k = s.size := by omega
      go_wp2
      go_ret2
      exact ⟨rfl, rfl⟩
set_option maxHeartbeats 400000 in
theorem small_empty (s : ByteArray) (w : World) (h : s.size = 0) :
    Calls Try.prog 17 #[.string s] w fun e w' => e = .returned (.tuple #[.int .u64 0, .bool false]) ∧ w' = w := by
  obtain rfl : s = ByteArray.empty := ByteArray.size_eq_zero_iff.1 h
  clear h
  go_enter Try.func17, Try.ntmps17
  go_wp2
  go_ret2
  exact ⟨rfl, rfl⟩

set_option maxHeartbeats 400000 in
theorem small_long (s : ByteArray) (w : World) (h : 9 < s.size) :
    Calls Try.prog 17 #[.string s] w fun e w' => e = .returned (.tuple #[.int .u64 0, .bool false]) ∧ w' = w := by
  have hz : ((s.size : Int) == 0) = false := beq_eq_false_iff_ne.2 (by omega)
  have hne : ¬ s = ByteArray.empty := by intro h; subst h; simp at h
  have h9' : 9 < (s.size : Int) := by omega
  go_enter Try.func17, Try.ntmps17
  go_wp2
  go_ret2
  exact ⟨rfl, rfl⟩

theorem sub48 (c : UInt8) (h : Qd.dg c = false) : (9 : Int) < ((c.toNat : Int) - 48) % 256 := by
  have hc : c.toNat < 256 := UInt8.toNat_lt c
  have := ndg_int h
  omega

set_option maxHeartbeats 400000 in
theorem small_bad (s : ByteArray) (w : World) (h1 : 1 ≤ s.size) (h9 : s.size ≤ 9) (hd : digs s = false) :
    Calls Try.prog 17 #[.string s] w fun e w' => e = .returned (.tuple #[.int .u64 0, .bool false]) ∧ w' = w := by
  have HDS : Hid (digs s = false) := hd
  clear hd
  have hz : ((s.size : Int) == 0) = false := beq_eq_false_iff_ne.2 (by omega)
  have hne : ¬ s = ByteArray.empty := by intro h; subst h; simp at h1
  have h9' : (s.size : Int) ≤ 9 := by omega
  go_enter Try.func17, Try.ntmps17
  go_wp2
  go_loop [4, 5] (fun n i => ∃ k : Nat, k ≤ s.size ∧ i = .int .i64 k ∧ digsTo s k = true ∧ n = .int .u64 (numTo s k)) (fun _ i => s.size - (intOf i).toNat)
  case atStart => exact ⟨0, Nat.zero_le _, rfl, rfl, rfl⟩
  case round =>
    obtain ⟨k, hk, rfl, hd, rfl⟩ := hrel
    have HD : Hid (digsTo s k = true) := hd
    clear hd
    by_cases hlt : k < s.size
    · by_cases hd : Qd.dg s[k] = true
      · have hd2 := dg_int hd
        have HD2 : Hid (Qd.dg s[k] = true) := hd
        have hn : numTo s k < 100000000 := Nat.lt_of_lt_of_le (numTo_lt s k hk HD.out) (pow_small k (by omega))
        have HN : Hid (((numTo s (k + 1) : Nat) : Int) = (numTo s k : Int) * 10 + ((s[k].toNat : Int) - 48)) := by
          have hdv : Qd.dv s[k] = s[k].toNat - 48 := rfl
          refine (?_ : _ = _); rw [numTo_succ s k hlt, hdv]; omega
        clear hd
        go_wp2
        go_round
        case rel => exact ⟨k + 1, by omega, by go_num, by rw [digsTo_succ s k hlt, HD.out, HD2.out]; rfl, by rw [HN.out]⟩
        case measure => simp [intOf]; omega
      · have hf : Qd.dg s[k] = false := by simpa using hd
        have h48 := sub48 s[k] hf
        clear hd hf
        go_wp2
        go_ret2
        exact ⟨rfl, rfl⟩
    · exact absurd (digsTo_all s k (by omega)) (by rw [HD.out, HDS.out]; simp)

/-- whether s is one to nine digits, and the number it writes -/
def sdOk (s : ByteArray) : Bool := decide (1 ≤ s.size) && (decide (s.size ≤ 9) && digs s)
def sdN (s : ByteArray) : Nat := if sdOk s then Qd.num s.data.toList else 0
theorem numTo_all (s : ByteArray) : numTo s s.size = Qd.num s.data.toList := by unfold numTo; rw [take_all s _ (Nat.le_refl _)]
theorem small_any (s : ByteArray) (w : World) :
    Calls Try.prog 17 #[.string s] w fun e w' => e = .returned (.tuple #[.int .u64 (sdN s), .bool (sdOk s)]) ∧ w' = w := by
  by_cases h1 : 1 ≤ s.size
  · by_cases h9 : s.size ≤ 9
    · cases hd : digs s with
      | true =>
        have e : sdOk s = true := by simp [sdOk, h1, h9, hd]
        have e2 : sdN s = numTo s s.size := by rw [sdN, e, numTo_all]; rfl
        rw [e, e2]; exact small_yes s w h1 h9 hd
      | false =>
        have e : sdOk s = false := by simp [sdOk, hd]
        have e2 : sdN s = 0 := by rw [sdN, e]; rfl
        rw [e, e2]; exact small_bad s w h1 h9 hd
    · have e : sdOk s = false := by simp [sdOk, h9]
      have e2 : sdN s = 0 := by rw [sdN, e]; rfl
      rw [e, e2]; exact small_long s w (by omega)
  · have e : sdOk s = false := by simp [sdOk, h1]
    have e2 : sdN s = 0 := by rw [sdN, e]; rfl
    rw [e, e2]; exact small_empty s w (by omega)

set_option maxHeartbeats 400000 in
theorem zzsmall_any (s : ByteArray) (w : World) :
    Calls Try.prog 8 #[.string s] w fun e w' => e = .returned (.tuple #[.int .u64 (sdN s), .bool (sdOk s)]) ∧ w' = w := by
  go_enter Try.func8, Try.ntmps8
  go_wp2_with (go_at_call 17; refine (small_any s _).mono ?_; rintro e w' ⟨rfl, rfl⟩)
  go_ret2
  exact ⟨rfl, rfl⟩

theorem pow_le9 (k : Nat) (hk : k ≤ 9) : 10 ^ k ≤ 1000000000 := by
  have : 10 ^ k ≤ 10 ^ 9 := Nat.pow_le_pow_right (by omega) hk
  simpa using this

set_option maxHeartbeats 400000 in
theorem tenTo_any (n : Nat) (w : World) (hn : n ≤ 9) :
    Calls Try.prog 10 #[.int .i64 n] w fun e w' => e = .returned (.int .u64 ((10 ^ n : Nat) : Int)) ∧ w' = w := by
  go_enter Try.func10, Try.ntmps10
  go_wp2
  go_loop [3, 4] (fun p i => ∃ k q : Nat, k ≤ n ∧ i = .int .i64 k ∧ q = 10 ^ k ∧ p = .int .u64 (q : Int)) (fun _ i => n - (intOf i).toNat)
  case atStart => exact ⟨0, 1, Nat.zero_le _, rfl, rfl, rfl⟩
  case round =>
    obtain ⟨k, q, hk, rfl, hq, rfl⟩ := hrel
    have hb : q ≤ 1000000000 := by rw [hq]; exact pow_le9 k (by omega)
    have HQ : Hid (q = 10 ^ k) := hq
    clear hq
    by_cases hlt : k < n
    · go_wp2
      go_round
      case rel => exact ⟨k + 1, q * 10, by omega, by go_num, by rw [HQ.out, Nat.pow_succ], by go_num⟩
      case measure => simp [intOf]; omega
    · obtain rfl : k = n := by omega
      go_wp2
      go_ret
      exact ⟨ret_u64 (by rw [HQ.out]; simp), rfl⟩
end Go.Proofs.Qxb6605527a
