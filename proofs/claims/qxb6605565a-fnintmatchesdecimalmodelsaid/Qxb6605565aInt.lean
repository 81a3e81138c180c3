import Derived.Test.Qxb6605565aNumb
namespace Qi
def dv (c : Int) : Nat := (c - 48).toNat
def num (l : List Int) : Nat := l.foldl (fun n c => n * 10 + dv c) 0
def dig (l : List Int) : Bool := l.all Qn.isD
theorem num_nil : num [] = 0 := rfl
theorem num_snoc (l : List Int) (c : Int) : num (l ++ [c]) = num l * 10 + dv c := by simp [num]
theorem dig_snoc (l : List Int) (c : Int) : dig (l ++ [c]) = (dig l && Qn.isD c) := by simp [dig]
theorem isD_dv {c : Int} (h : Qn.isD c = true) : dv c < 10 ∧ c = 48 + (dv c : Int) := by
  simp [Qn.isD] at h; simp [dv]; omega
theorem rev_ind {P : List Int → Prop} (h0 : P []) (h1 : ∀ l c, P l → P (l ++ [c])) : ∀ l, P l := by
  have : ∀ l : List Int, P l.reverse := by
    intro l
    induction l with
    | nil => exact h0
    | cons a t ih => rw [List.reverse_cons]; exact h1 _ _ ih
  intro l
  have := this l.reverse
  rwa [List.reverse_reverse] at this
theorem num_app (p : List Int) : ∀ q : List Int, num (p ++ q) = num p * 10 ^ q.length + num q := by
  refine rev_ind ?_ ?_
  · simp [num_nil]
  · intro l c ih
    rw [← List.append_assoc, num_snoc, num_snoc, ih, List.length_append, List.length_singleton, Nat.pow_succ, Nat.add_mul, ← Nat.mul_assoc]
    omega
theorem num_cons (c : Int) (t : List Int) : num (c :: t) = dv c * 10 ^ t.length + num t := by
  have := num_app [c] t
  simpa [num] using this
theorem num_lt : ∀ l : List Int, dig l = true → num l < 10 ^ l.length := by
  refine rev_ind ?_ ?_
  · intro _; simp [num]
  · intro l c ih h
    rw [dig_snoc, Bool.and_eq_true] at h
    have := ih h.1
    have := (isD_dv h.2).1
    rw [num_snoc, List.length_append, List.length_singleton, Nat.pow_succ]
    omega
theorem dig_cons {c : Int} {t : List Int} (h : dig (c :: t) = true) : Qn.isD c = true ∧ dig t = true := by
  simpa [dig] using h
theorem num_first (c : Int) (t : List Int) (h : dig (c :: t) = true) (hc : c ≠ 48) : 10 ^ t.length ≤ num (c :: t) := by
  obtain ⟨h1, h2⟩ := dig_cons h
  have := isD_dv h1
  have : 1 * 10 ^ t.length ≤ dv c * 10 ^ t.length := Nat.mul_le_mul_right _ (by omega)
  rw [num_cons]; omega
theorem num_digit : ∀ l : List Int, dig l = true → ∀ j, j < l.length → (48 + ((num l / 10 ^ (l.length - 1 - j) % 10 : Nat) : Int)) = l.getD j 0
  | [], _, j, h => by simp at h
  | c :: t, hd, j, h => by
    obtain ⟨h1, h2⟩ := dig_cons hd
    have hl := num_lt t h2
    have hp : 0 < 10 ^ t.length := Nat.pow_pos (by omega)
    rw [num_cons, List.length_cons]
    cases j with
    | zero =>
      have e : (dv c * 10 ^ t.length + num t) / 10 ^ (t.length + 1 - 1 - 0) = dv c := by
        rw [show t.length + 1 - 1 - 0 = t.length by omega, Nat.add_comm, Nat.add_mul_div_right _ _ hp, Nat.div_eq_of_lt hl, Nat.zero_add]
      have hv := isD_dv h1
      rw [e, Nat.mod_eq_of_lt hv.1]
      simp; omega
    | succ j =>
      have hj : j < t.length := by simpa using h
      have ih := num_digit t h2 j hj
      obtain ⟨m, hm⟩ : ∃ m, t.length - 1 - j = m := ⟨_, rfl⟩
      rw [hm] at ih
      rw [show t.length + 1 - 1 - (j + 1) = m by omega]
      have e1 : 10 ^ t.length = 10 ^ m * (10 * 10 ^ j) := by
        rw [← Nat.mul_assoc, ← Nat.pow_succ, ← Nat.pow_add]; congr 1; omega
      have hpm : 0 < 10 ^ m := Nat.pow_pos (by omega)
      have e2 : (dv c * 10 ^ t.length + num t) / 10 ^ m % 10 = num t / 10 ^ m % 10 := by
        rw [e1, ← Nat.mul_assoc, Nat.mul_comm (dv c) (10 ^ m), Nat.mul_assoc, Nat.add_comm, Nat.add_mul_div_left _ _ hpm]
        rw [show dv c * (10 * 10 ^ j) = 10 * (dv c * 10 ^ j) by rw [Nat.mul_left_comm]]
        omega
      rw [e2, ih]
      simp
theorem split_at (l : List Int) (k : Nat) (h : k < l.length) : l = l.take k ++ l.getD k 0 :: l.drop (k + 1) := by
  have e : l.getD k 0 :: l.drop (k + 1) = l.drop k := by
    rw [List.drop_eq_getElem_cons h]; simp [List.getD, List.getElem?_eq_getElem h]
  rw [e, List.take_append_drop]
theorem cmp_at (l m : List Int) (hl : l.length = m.length) (h1 : dig l = true) (h2 : dig m = true) (k : Nat) (hk : k < l.length) (ht : l.take k = m.take k)
    (hc : l.getD k 0 < m.getD k 0) : num l < num m := by
  have el := split_at l k hk
  have em := split_at m k (by omega)
  have dl : dig (l.take k ++ l.getD k 0 :: l.drop (k + 1)) = true := by rw [← el]; exact h1
  have dm : dig (m.take k ++ m.getD k 0 :: m.drop (k + 1)) = true := by rw [← em]; exact h2
  simp only [dig, List.all_append, List.all_cons, Bool.and_eq_true] at dl dm
  have g1 := num_lt (l.drop (k + 1)) dl.2.2
  have v1 := isD_dv dl.2.1
  have v2 := isD_dv dm.2.1
  have hlen : (l.drop (k + 1)).length = (m.drop (k + 1)).length := by simp [hl]
  rw [el, em, num_app, num_app, num_cons, num_cons, ht]
  simp only [List.length_cons]
  rw [hlen] at g1 ⊢
  have : (dv (l.getD k 0) + 1) * 10 ^ (m.drop (k + 1)).length ≤ dv (m.getD k 0) * 10 ^ (m.drop (k + 1)).length := Nat.mul_le_mul_right _ (by omega)
  rw [Nat.add_mul] at this
  omega
def lim7 : List Int := [57, 50, 50, 51, 51, 55, 50, 48, 51, 54, 56, 53, 52, 55, 55, 53, 56, 48, 55]
def lim8 : List Int := [57, 50, 50, 51, 51, 55, 50, 48, 51, 54, 56, 53, 52, 55, 55, 53, 56, 48, 56]
theorem lim7_num : num lim7 = 9223372036854775807 := by decide
theorem lim8_num : num lim8 = 9223372036854775808 := by decide
theorem lim7_dig : dig lim7 = true := by decide
theorem lim8_dig : dig lim8 = true := by decide
theorem take_succ_eq (l m : List Int) (k : Nat) (h1 : k < l.length) (h2 : k < m.length) (ht : l.take k = m.take k) (he : l.getD k 0 = m.getD k 0) : l.take (k + 1) = m.take (k + 1) := by
  rw [List.take_succ_eq_append_getElem h1, List.take_succ_eq_append_getElem h2, ht]
  have a : l.getD k 0 = l[k] := by simp [List.getD, List.getElem?_eq_getElem h1]
  have b : m.getD k 0 = m[k] := by simp [List.getD, List.getElem?_eq_getElem h2]
  rw [← a, ← b, he]
/-- the limit that a sign sets -/
def lim (neg : Bool) : Nat := if neg then 9223372036854775808 else 9223372036854775807
/-- does an int64 hold the digits, with the sign? -/
def fits (neg : Bool) (ds : List Int) : Bool := decide (num ds ≤ lim neg)
theorem fits_short (neg : Bool) (ds : List Int) (h : dig ds = true) (hl : ds.length < 19) : fits neg ds = true := by
  have h1 := num_lt ds h
  have h2 : 10 ^ ds.length ≤ 10 ^ 18 := Nat.pow_le_pow_right (by omega) (by omega)
  unfold fits lim
  rw [decide_eq_true_iff]
  split <;> omega
theorem fits_long (neg : Bool) (c : Int) (t : List Int) (h : dig (c :: t) = true) (hc : c ≠ 48) (hl : 19 < (c :: t).length) : fits neg (c :: t) = false := by
  have h1 := num_first c t h hc
  have h2 : 10 ^ 19 ≤ 10 ^ t.length := Nat.pow_le_pow_right (by omega) (by simp at hl; omega)
  unfold fits lim
  rw [decide_eq_false_iff_not]
  split <;> omega
end Qi
