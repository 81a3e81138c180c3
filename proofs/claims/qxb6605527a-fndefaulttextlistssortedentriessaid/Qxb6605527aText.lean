namespace Qt
abbrev Str := List UInt8
def entry (f : Str → Str) (k : Str) : Str := k ++ 61 :: f k
def jn (f : Str → Str) : List Str → Str
  | [] => []
  | [k] => entry f k
  | k :: k' :: r => entry f k ++ 44 :: jn f (k' :: r)
def Asc (ks : List Str) : Prop := ks.Pairwise (· < ·)

theorem lt_app (a : Str) (b : UInt8) (c : Str) : a < a ++ b :: c := by
  induction a with
  | nil => exact List.nil_lt_cons _ _
  | cons x a ih => rw [List.cons_append]; exact List.cons_lt_cons_iff.2 (.inr ⟨rfl, ih⟩)
theorem take_lt (K : Str) (m : Nat) (h : m < K.length) : K.take m < K := by
  have e : K = K.take m ++ K[m] :: K.drop (m + 1) := by
    rw [← List.drop_eq_getElem_cons h, List.take_append_drop]
  have := lt_app (K.take m) K[m] (K.drop (m + 1))
  rw [← e] at this
  exact this
theorem asc_get {ks : List Str} (h : Asc ks) {i j : Nat} (hi : i < ks.length) (hj : j < ks.length) (hij : i < j) : ks[i] < ks[j] :=
  List.pairwise_iff_getElem.1 h i j hi hj hij
theorem cand {ks : List Str} (h : Asc ks) {i : Nat} (hi : i < ks.length) {m : Nat} (hm : m < ks[i].length) (hk : ks[i].take m ∈ ks) :
    ∃ h0 : 0 < i, ¬ (ks[i - 1]'(by omega) < ks[i].take m) := by
  have hlt := take_lt ks[i] m hm
  obtain ⟨j, hj, e⟩ := List.getElem_of_mem hk
  rw [← e] at hlt ⊢
  have hji : j < i := by
    rcases Nat.lt_trichotomy j i with h1 | h1 | h1
    · exact h1
    · subst h1; exact absurd hlt (List.lt_irrefl _)
    · exact absurd (List.lt_trans hlt (asc_get h hi hj h1)) (List.lt_irrefl _)
  refine ⟨by omega, ?_⟩
  by_cases hje : j = i - 1
  · subst hje; exact List.lt_irrefl _
  · intro hc
    exact absurd (List.lt_trans hc (asc_get h hj (show i - 1 < ks.length by omega) (by omega))) (List.lt_irrefl _)
/-- what stands in the text from place p on, where entry i begins -/
structure At (f : Str → Str) (ks : List Str) (L : Str) (i p : Nat) (hi : i < ks.length) : Prop where
  le : p + ks[i].length + 1 + (f ks[i]).length ≤ L.length
  byte : ∀ m, m < ks[i].length → L[p + m]? = ks[i][m]?
  eqs : L[p + ks[i].length]? = some 61
  pre : ∀ m, m ≤ ks[i].length → (L.drop p).take m = ks[i].take m
  val : (L.drop (p + ks[i].length + 1)).take (f ks[i]).length = f ks[i]
  last : i + 1 = ks.length → p + ks[i].length + 1 + (f ks[i]).length = L.length
  more : i + 1 < ks.length → p + ks[i].length + 1 + (f ks[i]).length < L.length ∧ L[p + ks[i].length + 1 + (f ks[i]).length]? = some 44 ∧
    L.drop (p + ks[i].length + 1 + (f ks[i]).length + 1) = jn f (ks.drop (i + 1))
theorem jn_cons (f : Str → Str) (k : Str) (r : List Str) : jn f (k :: r) = entry f k ++ (if r = [] then [] else 44 :: jn f r) := by
  cases r with
  | nil => simp [jn]
  | cons k' r => rw [jn, if_neg (by simp)]
theorem at_of (f : Str → Str) (ks : List Str) (L : Str) (i p : Nat) (hi : i < ks.length) (hp : p ≤ L.length) (h : L.drop p = jn f (ks.drop i)) : At f ks L i p hi := by
  rw [List.drop_eq_getElem_cons hi, jn_cons] at h
  obtain ⟨K, hK⟩ : ∃ K, ks[i] = K := ⟨_, rfl⟩
  obtain ⟨T, hT⟩ : ∃ T, (if ks.drop (i + 1) = [] then [] else 44 :: jn f (ks.drop (i + 1))) = T := ⟨_, rfl⟩
  rw [hK, hT] at h
  unfold entry at h
  have hl : L.length = p + (K.length + 1 + (f K).length + T.length) := by
    have := congrArg List.length h
    simp at this; omega
  have get : ∀ m, L[p + m]? = (K ++ 61 :: f K ++ T)[m]? := fun m => by rw [← h, List.getElem?_drop]
  have e1 : K ++ 61 :: f K ++ T = K ++ (61 :: (f K ++ T)) := by simp
  refine ⟨?_, ?_, ?_, ?_, ?_, ?_, ?_⟩ <;> rw [hK]
  · omega
  · intro m hm; rw [get, e1, List.getElem?_append_left hm]
  · rw [get, e1, List.getElem?_append_right (Nat.le_refl _)]; simp
  · intro m hm; rw [h, e1, List.take_append_of_le_length hm]
  · have : L.drop (p + K.length + 1) = f K ++ T := by
      rw [Nat.add_assoc, ← List.drop_drop, h, e1, ← List.drop_drop]; simp
    rw [this]; simp
  · intro hlast
    have : ks.drop (i + 1) = [] := List.drop_eq_nil_of_le (by omega)
    rw [if_pos this] at hT
    rw [← hT] at hl; simp at hl; omega
  · intro hmore
    have hne : ks.drop (i + 1) ≠ [] := by
      intro hh; have := congrArg List.length hh; simp at this; omega
    rw [if_neg hne] at hT
    have hd : L.drop (p + K.length + 1 + (f K).length) = T := by
      rw [show p + K.length + 1 + (f K).length = p + (K.length + 1 + (f K).length) by omega, ← List.drop_drop, h]
      rw [show K.length + 1 + (f K).length = (K ++ 61 :: f K).length by simp; omega]
      exact List.drop_left
    have hTl : 0 < T.length := by rw [← hT]; simp
    refine ⟨by omega, ?_, ?_⟩
    · have := congrArg (fun l => l[0]?) hd
      simp only [List.getElem?_drop, Nat.add_zero] at this
      rw [this, ← hT]; rfl
    · rw [← List.drop_drop, hd, ← hT]; rfl
theorem jn_len (f : Str → Str) (B : Nat) : ∀ ks : List Str, (∀ k ∈ ks, k.length ≤ B ∧ (f k).length ≤ B) → (jn f ks).length ≤ ks.length * (2 * B + 2)
  | [], _ => by simp [jn]
  | k :: r, h => by
    have h1 := h k List.mem_cons_self
    have h2 := jn_len f B r (fun x hx => h x (List.mem_cons_of_mem _ hx))
    rw [jn_cons, List.length_cons, Nat.add_mul]
    have : (if r = [] then ([] : Str) else 44 :: jn f r).length ≤ (jn f r).length + 1 := by split <;> simp
    simp only [entry, List.length_append, List.length_cons]
    omega
theorem asc_sort (ss : List Str) (hn : ss.Nodup) : Asc (ss.mergeSort fun x y => decide (x ≤ y)) := by
  have tr : ∀ a b c : Str, (decide (a ≤ b)) = true → (decide (b ≤ c)) = true → (decide (a ≤ c)) = true := fun a b c h1 h2 => by
    simp only [decide_eq_true_eq] at *; exact List.le_trans h1 h2
  have to : ∀ a b : Str, (decide (a ≤ b) || decide (b ≤ a)) = true := fun a b => by
    simp only [Bool.or_eq_true, decide_eq_true_eq]; exact List.le_total a b
  have hp := List.pairwise_mergeSort tr to ss
  have hnd : (ss.mergeSort fun x y => decide (x ≤ y)).Nodup := (List.mergeSort_perm ss _).nodup_iff.2 hn
  refine List.pairwise_iff_getElem.2 ?_
  intro i j hi hj hij
  have h1 : (ss.mergeSort fun x y => decide (x ≤ y))[i] ≤ (ss.mergeSort fun x y => decide (x ≤ y))[j] := by simpa using List.pairwise_iff_getElem.1 hp i j hi hj hij
  have h2 := List.pairwise_iff_getElem.1 hnd i j hi hj hij
  by_cases h : (ss.mergeSort fun x y => decide (x ≤ y))[i] < (ss.mergeSort fun x y => decide (x ≤ y))[j]
  · exact h
  · exact absurd (List.le_antisymm h1 (List.not_lt.1 h)) h2
theorem mem_sort (ss : List Str) (x : Str) : x ∈ (ss.mergeSort fun x y => decide (x ≤ y)) ↔ x ∈ ss := (List.mergeSort_perm ss _).mem_iff
end Qt
