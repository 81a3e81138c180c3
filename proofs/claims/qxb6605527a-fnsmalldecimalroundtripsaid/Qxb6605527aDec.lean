namespace Qd
def dg (c : UInt8) : Bool := decide (48 ≤ c.toNat) && decide (c.toNat ≤ 57)
def dv (c : UInt8) : Nat := c.toNat - 48
def num (l : List UInt8) : Nat := l.foldl (fun n c => n * 10 + dv c) 0
def pad : Nat → Nat → List UInt8
  | _, 0 => []
  | n, k + 1 => pad (n / 10) k ++ [UInt8.ofNat (48 + n % 10)]

theorem num_snoc (l : List UInt8) (c : UInt8) : num (l ++ [c]) = num l * 10 + dv c := by simp [num]
theorem num_nil : num [] = 0 := rfl
theorem all_snoc (l : List UInt8) (c : UInt8) : (l ++ [c]).all dg = (l.all dg && dg c) := by simp
theorem dv_lt {c : UInt8} (h : dg c = true) : dv c < 10 := by
  simp [dg] at h; simp [dv]; omega
-- reversed induction
theorem rev_ind {P : List UInt8 → Prop} (h0 : P []) (h1 : ∀ l c, P l → P (l ++ [c])) : ∀ l, P l := by
  have : ∀ l : List UInt8, P l.reverse := by
    intro l
    induction l with
    | nil => exact h0
    | cons a t ih => rw [List.reverse_cons]; exact h1 _ _ ih
  intro l
  have := this l.reverse
  rwa [List.reverse_reverse] at this
theorem num_lt : ∀ l : List UInt8, l.all dg = true → num l < 10 ^ l.length := by
  refine rev_ind ?_ ?_
  · intro _; simp [num]
  · intro l c ih h
    rw [all_snoc, Bool.and_eq_true] at h
    have := ih h.1
    have := dv_lt h.2
    rw [num_snoc, List.length_append, List.length_singleton, Nat.pow_succ]
    omega
theorem pad_num : ∀ l : List UInt8, l.all dg = true → pad (num l) l.length = l := by
  refine rev_ind ?_ ?_
  · intro _; rfl
  · intro l c ih h
    rw [all_snoc, Bool.and_eq_true] at h
    have e := ih h.1
    have hv := dv_lt h.2
    rw [num_snoc, List.length_append, List.length_singleton]
    have e1 : (num l * 10 + dv c) / 10 = num l := by omega
    have e2 : (num l * 10 + dv c) % 10 = dv c := by omega
    show pad ((num l * 10 + dv c) / 10) l.length ++ [UInt8.ofNat (48 + (num l * 10 + dv c) % 10)] = l ++ [c]
    rw [e1, e2, e]
    congr 2
    have := h.2
    simp [dg] at this
    apply UInt8.toNat_inj.1
    have hc : c.toNat < 256 := UInt8.toNat_lt c
    rw [UInt8.toNat_ofNat', dv]
    omega
-- order
theorem num_cons (c : UInt8) : ∀ l : List UInt8, num (c :: l) = dv c * 10 ^ l.length + num l := by
  refine rev_ind ?_ ?_
  · simp [num]
  · intro l d ih
    rw [show c :: (l ++ [d]) = (c :: l) ++ [d] from rfl, num_snoc, num_snoc, ih, List.length_append, List.length_singleton, Nat.pow_succ]
    rw [Nat.add_mul, ← Nat.mul_assoc]
    omega
def less : List UInt8 → List UInt8 → Bool
  | [], [] => false
  | [], _ :: _ => true
  | _ :: _, [] => false
  | a :: as, b :: bs => decide (a.toNat < b.toNat) || (decide (a = b) && less as bs)
theorem num_inj : ∀ l m : List UInt8, l.length = m.length → l.all dg = true → m.all dg = true → num l = num m → l = m := by
  intro l m hl h1 h2 e
  rw [← pad_num l h1, ← pad_num m h2, e, hl]
theorem num_less : ∀ l m : List UInt8, l.length = m.length → l.all dg = true → m.all dg = true → decide (num l < num m) = less l m := by
  intro l
  induction l with
  | nil => intro m hl _ _; cases m with | nil => rfl | cons _ _ => simp at hl
  | cons a t ih =>
    intro m hl h1 h2
    cases m with
    | nil => simp at hl
    | cons b u =>
      simp only [List.length_cons, Nat.add_right_cancel_iff] at hl
      simp only [List.all_cons, Bool.and_eq_true] at h1 h2
      have e := ih u hl h1.2 h2.2
      have g1 := num_lt t h1.2
      have g2 := num_lt u h2.2
      rw [num_cons, num_cons, less, ← e, hl]
      rw [hl] at g1
      have ha := h1.1; have hb := h2.1
      simp [dg] at ha hb
      have da : dv a = a.toNat - 48 := rfl
      have db : dv b = b.toNat - 48 := rfl
      by_cases hab : a.toNat < b.toNat
      · have : (dv a + 1) * 10 ^ u.length ≤ dv b * 10 ^ u.length := Nat.mul_le_mul_right _ (by omega)
        rw [Nat.add_mul] at this
        simp [hab]; omega
      · by_cases hba : b.toNat < a.toNat
        · have : (dv b + 1) * 10 ^ u.length ≤ dv a * 10 ^ u.length := Nat.mul_le_mul_right _ (by omega)
          rw [Nat.add_mul] at this
          have hne : a ≠ b := by intro h; subst h; omega
          simp [hab, hne]; omega
        · have hh : a = b := UInt8.toNat_inj.1 (by omega)
          subst hh
          simp
theorem pad_len : ∀ k n, (pad n k).length = k
  | 0, _ => rfl
  | k + 1, n => by simp [pad, pad_len k]
theorem pad_get : ∀ k n j, j < k → (pad n k)[j]? = some (UInt8.ofNat (48 + n / 10 ^ (k - 1 - j) % 10))
  | 0, _, _, h => by omega
  | k + 1, n, j, h => by
    simp only [pad]
    by_cases hj : j < k
    · rw [List.getElem?_append_left (by rw [pad_len]; exact hj), pad_get k (n / 10) j hj, Nat.div_div_eq_div_mul]
      have e : 10 * 10 ^ (k - 1 - j) = 10 ^ (k + 1 - 1 - j) := by
        rw [show k + 1 - 1 - j = (k - 1 - j) + 1 by omega, Nat.pow_succ, Nat.mul_comm]
      rw [e]
    · have hj' : j = k := by omega
      subst hj'
      rw [List.getElem?_append_right (by rw [pad_len]; omega), pad_len]
      simp
end Qd
