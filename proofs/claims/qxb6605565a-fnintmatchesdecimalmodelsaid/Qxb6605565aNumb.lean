namespace Qn
def isD (c : Int) : Bool := decide (48 ≤ c) && decide (c ≤ 57)
def isE (c : Int) : Bool := c == 101 || c == 69
def isS (c : Int) : Bool := c == 43 || c == 45
def isN (c : Int) : Bool := isD c || (c == 45 || (c == 43 || (c == 46 || (c == 101 || c == 69))))
/-- how many digits stand ahead -/
def dl : List Int → Nat
  | [] => 0
  | c :: t => if isD c then dl t + 1 else 0
def hd (l : List Int) (p : Int → Bool) : Bool := match l with | [] => false | c :: _ => p c
theorem hd_cons (c : Int) (t : List Int) (p : Int → Bool) : hd (c :: t) p = p c := rfl
theorem hd_nil (p : Int → Bool) : hd [] p = false := rfl
/-- the exponent: how far it goes from l on; none: it is broken -/
def ex (l : List Int) : Option Nat :=
  if hd l isE then
    (if hd l.tail isS then
      (if hd l.tail.tail isD then some (2 + dl l.tail.tail) else none)
    else (if hd l.tail isD then some (1 + dl l.tail) else none))
  else some 0
/-- from behind the integer part on -/
def fr (l : List Int) : Option Nat :=
  if hd l (· == 46) then
    (if hd l.tail isD then (ex (l.tail.drop (dl l.tail))).map (fun k => 1 + dl l.tail + k) else none)
  else ex l
/-- from behind the sign on -/
def ip (l : List Int) : Option Nat :=
  if hd l isD then
    (if hd l (· == 48) then (fr l.tail).map (1 + ·) else (fr (l.drop (dl l))).map (dl l + ·))
  else none
def nl (l : List Int) : Option Nat := if hd l (· == 45) then (ip l.tail).map (1 + ·) else ip l

/-- the automaton -/
def st (s : Nat) (c : Int) : Option Nat :=
  match s with
  | 0 => if c == 45 then some 1 else if c == 48 then some 2 else if isD c then some 3 else none
  | 1 => if c == 48 then some 2 else if isD c then some 3 else none
  | 2 => if c == 46 then some 4 else if isE c then some 6 else none
  | 3 => if isD c then some 3 else if c == 46 then some 4 else if isE c then some 6 else none
  | 4 => if isD c then some 5 else none
  | 5 => if isD c then some 5 else if isE c then some 6 else none
  | 6 => if isS c then some 7 else if isD c then some 8 else none
  | 7 => if isD c then some 8 else none
  | 8 => if isD c then some 8 else none
  | _ => none
def acc (s : Nat) : Bool := s == 2 || (s == 3 || (s == 5 || s == 8))
def run : Nat → List Int → Nat × Nat
  | s, [] => (0, s)
  | s, c :: t => match st s c with
    | none => (0, s)
    | some s' => ((run s' t).1 + 1, (run s' t).2)
def res (r : Nat × Nat) : Option Nat := if acc r.2 then some r.1 else none

theorem dl_le : ∀ l : List Int, dl l ≤ l.length
  | [] => by simp [dl]
  | c :: t => by have := dl_le t; simp only [dl]; split <;> simp <;> omega
theorem e_not_d {c : Int} (h : isE c = true) : isD c = false := by
  simp [isE] at h; rcases h with rfl | rfl <;> decide
theorem s_not_d {c : Int} (h : isS c = true) : isD c = false := by
  simp [isS] at h; rcases h with rfl | rfl <;> decide
theorem run8 : ∀ l, run 8 l = (dl l, 8)
  | [] => rfl
  | c :: t => by
    by_cases h : isD c = true
    · simp [run, st, dl, h, run8 t]
    · simp [run, st, dl, h]
theorem run7 (l : List Int) : res (run 7 l) = if hd l isD then some (dl l) else none := by
  cases l with
  | nil => rfl
  | cons c t =>
    by_cases h : isD c = true
    · simp [run, st, dl, h, run8, res, acc, hd_cons]
    · simp [run, st, h, res, acc, hd_cons]
theorem res_succ (r : Nat × Nat) : res (r.1 + 1, r.2) = (res r).map (1 + ·) := by
  unfold res; split <;> simp; omega
theorem run6 (l : List Int) : res (run 6 l) = if hd l isS then (if hd l.tail isD then some (1 + dl l.tail) else none) else (if hd l isD then some (dl l) else none) := by
  cases l with
  | nil => rfl
  | cons c t =>
    by_cases h : isS c = true
    · have e : run 6 (c :: t) = ((run 7 t).1 + 1, (run 7 t).2) := by simp [run, st, h]
      rw [e, res_succ, run7, hd_cons, h, List.tail_cons]
      cases hd t isD <;> simp
    · by_cases h2 : isD c = true
      · simp [run, st, dl, h, h2, run8, res, acc, hd_cons]
      · simp [run, st, h, h2, res, acc, hd_cons]
theorem ex_of (l : List Int) (h : hd l isE = true) : ex l = (res (run 6 l.tail)).map (1 + ·) := by
  unfold ex; rw [if_pos h, run6]
  split <;> split <;> simp <;> omega
theorem run5 : ∀ l, res (run 5 l) = (ex (l.drop (dl l))).map (dl l + ·)
  | [] => rfl
  | c :: t => by
    by_cases h : isD c = true
    · have r := run5 t
      simp only [run, st, dl, h, if_true, List.drop_succ_cons]
      rw [res_succ, r, Option.map_map]
      congr 1; funext x; simp; omega
    · by_cases h2 : isE c = true
      · have e := ex_of (c :: t) h2
        simp only [run, st, dl, h, h2, if_true, if_false, List.drop_zero, Bool.false_eq_true]
        rw [e, res_succ, Option.map_map]
        congr 1; funext x; simp
      · simp [run, st, dl, h, h2, res, acc, ex, hd_cons]
theorem run4 (l : List Int) : res (run 4 l) = if hd l isD then (ex (l.drop (dl l))).map (dl l + ·) else none := by
  cases l with
  | nil => rfl
  | cons c t =>
    by_cases h : isD c = true
    · have r := run5 t
      simp only [run, st, dl, h, if_true, List.drop_succ_cons, hd_cons]
      rw [res_succ, r, Option.map_map]
      congr 1; funext x; simp; omega
    · simp [run, st, h, res, acc, hd_cons]
theorem run2 (l : List Int) : res (run 2 l) = fr l := by
  cases l with
  | nil => rfl
  | cons c t =>
    by_cases h : c == 46
    · have e : run 2 (c :: t) = ((run 4 t).1 + 1, (run 4 t).2) := by simp only [run, st, h, if_true]
      unfold fr
      rw [e, res_succ, run4, hd_cons, h, List.tail_cons]
      cases hd t isD
      · simp
      · simp only [if_true]
        rw [Option.map_map]; congr 1; funext x; simp; omega
    · by_cases h2 : isE c = true
      · have e := ex_of (c :: t) h2
        simp only [run, st, h, h2, if_true, if_false, fr, hd_cons, Bool.false_eq_true]
        rw [e, res_succ]
        simp
      · simp [run, st, h, h2, res, acc, ex, hd_cons, fr]
theorem run3 : ∀ l, res (run 3 l) = (fr (l.drop (dl l))).map (dl l + ·)
  | [] => rfl
  | c :: t => by
    by_cases h : isD c = true
    · have r := run3 t
      simp only [run, st, dl, h, if_true, List.drop_succ_cons]
      rw [res_succ, r, Option.map_map]
      congr 1; funext x; simp; omega
    · have r := run2 (c :: t)
      simp only [dl, h, if_false, List.drop_zero, Bool.false_eq_true]
      rw [← r]
      have e : st 3 c = st 2 c := by simp [st, h]
      simp only [run, e]
      cases st 2 c with
      | none => simp [res, acc]
      | some s => simp
theorem run1 (l : List Int) : res (run 1 l) = ip l := by
  cases l with
  | nil => rfl
  | cons c t =>
    by_cases h : c == 48
    · have hc : c = 48 := by simpa using h
      subst hc
      have r := run2 t
      have hd48 : isD 48 = true := by decide
      simp only [run, st, ip, hd_cons, hd48, List.tail_cons, if_true, BEq.rfl]
      rw [res_succ, r]
    · by_cases h2 : isD c = true
      · have r := run3 t
        simp only [run, st, ip, hd_cons, h, h2, if_true, if_false, Bool.false_eq_true, dl, List.drop_succ_cons]
        rw [res_succ, r, Option.map_map]
        congr 1; funext x; simp; omega
      · simp [run, st, h, h2, res, acc, ip, hd_cons]
theorem run0 (l : List Int) : res (run 0 l) = nl l := by
  cases l with
  | nil => rfl
  | cons c t =>
    by_cases h : c == 45
    · have r := run1 t
      simp only [run, st, h, if_true, nl, hd_cons, List.tail_cons]
      rw [res_succ, r]
    · have r := run1 (c :: t)
      simp only [nl, hd_cons, h, if_false, Bool.false_eq_true]
      rw [← r]
      have e : st 0 c = st 1 c := by simp [st, h]
      simp only [run, e]
      cases st 1 c with
      | none => simp [res, acc]
      | some s => simp
theorem run_le : ∀ l s, (run s l).1 ≤ l.length
  | [], s => by simp [run]
  | c :: t, s => by
    simp only [run]
    cases st s c with
    | none => simp
    | some s' => have := run_le t s'; simp; omega
theorem run_take : ∀ l s, run s (l.take (run s l).1) = run s l
  | [], s => by simp [run]
  | c :: t, s => by
    simp only [run]
    cases h : st s c with
    | none => simp [run]
    | some s' => have := run_take t s'; simp [run, h, this]
theorem st_byte (s : Nat) (c : Int) (s' : Nat) (h : st s c = some s') : isN c = true := by
  unfold st at h
  unfold isN
  cases hd : isD c with
  | true => rfl
  | false =>
    simp only [hd, isE, isS, Bool.false_or] at h ⊢
    by_cases c1 : c = 45
    · subst c1; rfl
    · by_cases c2 : c = 43
      · subst c2; rfl
      · by_cases c3 : c = 46
        · subst c3; rfl
        · by_cases c4 : c = 101
          · subst c4; rfl
          · by_cases c5 : c = 69
            · subst c5; rfl
            · have c6 : c ≠ 48 := by intro e; subst e; revert hd; decide
              simp [c1, c2, c3, c4, c5, c6] at h
              split at h <;> cases h
theorem st_acc (s : Nat) (c : Int) (s' : Nat) (h : st s c = some s') (ha : acc s' = true) : isD c = true := by
  unfold st at h
  cases hd : isD c with
  | true => rfl
  | false =>
    exfalso
    have c6 : (c == 48) = false := by
      by_cases e : c = 48
      · subst e; revert hd; decide
      · simp [e]
    simp only [hd, c6] at h
    split at h <;> simp at h <;> (try (obtain ⟨_, rfl⟩ := h; revert ha; decide)) <;> (revert h; by_cases q : c = 46 <;> by_cases q2 : isE c = true <;> simp [q, q2] <;> (intro h; subst h; revert ha; decide))
theorem run_bytes : ∀ l s k, k < (run s l).1 → isN (l.getD k 0) = true
  | [], s, k, h => by simp [run] at h
  | c :: t, s, k, h => by
    simp only [run] at h
    cases hs : st s c with
    | none => rw [hs] at h; simp at h
    | some s' =>
      rw [hs] at h
      cases k with
      | zero => simpa using st_byte s c s' hs
      | succ k => simpa using run_bytes t s' k (by simpa using h)
theorem run_last : ∀ l s, 0 < (run s l).1 → acc (run s l).2 = true → isD (l.getD ((run s l).1 - 1) 0) = true
  | [], s, h, _ => by simp [run] at h
  | c :: t, s, h, ha => by
    simp only [run] at h ha ⊢
    cases hs : st s c with
    | none => rw [hs] at h; simp at h
    | some s' =>
      rw [hs] at h ha
      simp only [Nat.add_sub_cancel] at ha ⊢
      by_cases hz : (run s' t).1 = 0
      · have e : (run s' t).2 = s' := by
          cases t with
          | nil => rfl
          | cons d u =>
            simp only [run] at hz ⊢
            cases hh : st s' d with
            | none => rfl
            | some q => rw [hh] at hz; simp at hz
        rw [e] at ha
        rw [hz]
        simpa using st_acc s c s' hs ha
      · have := run_last t s' (by omega) ha
        obtain ⟨m, hm⟩ : ∃ m, (run s' t).1 = m + 1 := ⟨(run s' t).1 - 1, by omega⟩
        rw [hm] at this ⊢
        simpa using this
theorem nl_facts (l : List Int) (k : Nat) (h : nl l = some k) :
    0 < k ∧ k ≤ l.length ∧ isD (l.getD (k - 1) 0) = true ∧ (∀ j, j < k → isN (l.getD j 0) = true) ∧ nl (l.take k) = some k := by
  rw [← run0] at h
  have h' := h
  unfold res at h
  split at h
  · rename_i ha
    have hk : (run 0 l).1 = k := by simpa using h
    have hpos : 0 < k := by
      cases l with
      | nil => exact absurd ha (by decide)
      | cons c t =>
        rw [← hk]
        simp only [run] at ha ⊢
        cases hs : st 0 c with
        | none => rw [hs] at ha; exact absurd (show acc 0 = true from ha) (by decide)
        | some s' => simp
    refine ⟨hpos, by rw [← hk]; exact run_le _ _, ?_, ?_, ?_⟩
    · have := run_last l 0 (by omega) ha; rwa [hk] at this
    · intro j hj; exact run_bytes l 0 j (by omega)
    · rw [← run0, ← hk, run_take, hk]; exact h'
  · cases h
end Qn
