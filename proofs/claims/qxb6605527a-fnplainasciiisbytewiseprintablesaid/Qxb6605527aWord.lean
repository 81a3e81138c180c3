set_option linter.unusedSimpArgs false
set_option linter.unusedVariables false
namespace Qw
def good (b : Nat) : Bool := decide (32 ≤ b) && (decide (b ≤ 126) && !decide (b = 61))
def val : List Nat → Nat
  | [] => 0
  | b :: bs => b + 256 * val bs
def bt (x j : Nat) : Nat := x / 2 ^ (8 * j + 7) % 2
theorem bt_zero (r y : Nat) (h : r < 256) : bt (r + 256 * y) 0 = r / 128 := by
  unfold bt; show (r + 256 * y) / 128 % 2 = r / 128; omega
theorem bt_succ (r y j : Nat) (h : r < 256) : bt (r + 256 * y) (j + 1) = bt y j := by
  unfold bt
  have e : 2 ^ (8 * (j + 1) + 7) = 256 * 2 ^ (8 * j + 7) := by
    rw [show 8 * (j + 1) + 7 = 8 + (8 * j + 7) by omega, Nat.pow_add]
  rw [e, ← Nat.div_div_eq_div_mul, show (r + 256 * y) / 256 = y by omega]
def rep (c : Nat) : Nat → Nat
  | 0 => 0
  | n + 1 => c + 256 * rep c n
theorem rep_lt (c : Nat) (hc : c < 256) : ∀ n, rep c n < 256 ^ n
  | 0 => by simp [rep]
  | n + 1 => by have := rep_lt c hc n; rw [Nat.pow_succ]; simp only [rep]; omega
theorem val_lt : ∀ bs : List Nat, (∀ b ∈ bs, b < 256) → val bs < 256 ^ bs.length
  | [], _ => by simp [val]
  | b :: bs, h => by
    have := val_lt bs (fun x hx => h x (List.mem_cons_of_mem _ hx))
    have := h b List.mem_cons_self
    rw [List.length_cons, Nat.pow_succ]; simp only [val]; omega
theorem sub_good (M b c y z : Nat) (hb : b < 256) (hc : c ≤ b) (hy : y < M) (hz : z < M) :
    ((b + 256 * y) + M * 256 - (c + 256 * z)) % (M * 256) = (b - c) + 256 * ((y + M - z) % M) := by
  by_cases h : z ≤ y
  · have e : (b + 256 * y) + M * 256 - (c + 256 * z) = ((b - c) + 256 * (y - z)) + M * 256 := by omega
    have e2 : y + M - z = (y - z) + M := by omega
    rw [e, Nat.add_mod_right, e2, Nat.add_mod_right, Nat.mod_eq_of_lt (by omega), Nat.mod_eq_of_lt (a := y - z) (by omega)]
  · rw [Nat.mod_eq_of_lt (by omega), Nat.mod_eq_of_lt (a := y + M - z) (by omega)]
    omega
theorem sub_low (M b c y z : Nat) (hb : b < c) (hc : c < 256) (hy : y < M) (hz : z < M) :
    ∃ q, ((b + 256 * y) + M * 256 - (c + 256 * z)) % (M * 256) = (b + 256 - c) + 256 * q := by
  by_cases h : z + 1 ≤ y
  · have e : (b + 256 * y) + M * 256 - (c + 256 * z) = ((b + 256 - c) + 256 * (y - z - 1)) + M * 256 := by omega
    refine ⟨y - z - 1, ?_⟩
    rw [e, Nat.add_mod_right, Nat.mod_eq_of_lt (by omega)]
  · refine ⟨y + M - z - 1, ?_⟩
    rw [Nat.mod_eq_of_lt (by omega)]
    omega
theorem add_good (M b y z : Nat) (hb : b + 1 < 256) (hy : y < M) (hz : z < M) :
    ((b + 256 * y) + (1 + 256 * z)) % (M * 256) = (b + 1) + 256 * ((y + z) % M) := by
  by_cases h : y + z < M
  · rw [Nat.mod_eq_of_lt (by omega), Nat.mod_eq_of_lt (a := y + z) h]; omega
  · have e : (b + 256 * y) + (1 + 256 * z) = ((b + 1) + 256 * (y + z - M)) + M * 256 := by omega
    have e2 : y + z = (y + z - M) + M := by omega
    rw [e, Nat.add_mod_right, Nat.mod_eq_of_lt (by omega), e2, Nat.add_mod_right, Nat.mod_eq_of_lt (a := y + z - M) (by omega)]
    omega
/-- the three tests on the top bits of the n lowest bytes -/
def Clear (n x t : Nat) : Prop :=
  ∀ j, j < n →
    (bt ((x + 256 ^ n - rep 32 n) % 256 ^ n) j = 1 → bt x j = 1) ∧
    (bt ((x + rep 1 n) % 256 ^ n) j = 0 ∧ bt x j = 0) ∧
    (bt ((t + 256 ^ n - rep 1 n) % 256 ^ n) j = 1 → bt t j = 1)
def tied : List Nat → List Nat → Prop
  | [], [] => True
  | b :: bs, u :: us => (u < 256 ∧ (u = 0 ↔ b = 61) ∧ (u < 128 ↔ b < 128)) ∧ tied bs us
  | _, _ => False
theorem tied_len : ∀ bs us, tied bs us → us.length = bs.length ∧ ∀ u ∈ us, u < 256
  | [], [], _ => ⟨rfl, fun _ h => by cases h⟩
  | b :: bs, u :: us, h => by
    have := tied_len bs us h.2
    refine ⟨by simp [this.1], fun x hx => ?_⟩
    rcases List.mem_cons.1 hx with rfl | hx
    · exact h.1.1
    · exact this.2 x hx
  | [], _ :: _, h => h.elim
  | _ :: _, [], h => h.elim
theorem clear_iff : ∀ bs us : List Nat, (∀ b ∈ bs, b < 256) → tied bs us → (Clear bs.length (val bs) (val us) ↔ bs.all good = true)
  | [], [], _, _ => by simp [Clear]
  | [], _ :: _, _, h => h.elim
  | _ :: _, [], _, h => h.elim
  | b :: bs, u :: us, hb, ht => by
    have hb0 := hb b List.mem_cons_self
    have hbs : ∀ x ∈ bs, x < 256 := fun x hx => hb x (List.mem_cons_of_mem _ hx)
    have ih := clear_iff bs us hbs ht.2
    obtain ⟨⟨hu0, hu1, hu2⟩, ht2⟩ := ht
    have hl := tied_len bs us ht2
    have v1 := val_lt bs hbs
    have v2 := val_lt us hl.2
    rw [hl.1] at v2
    have r1 := rep_lt 32 (by omega) bs.length
    have r2 := rep_lt 1 (by omega) bs.length
    rw [List.all_cons, List.length_cons]
    by_cases hg : good b = true
    · have hg' := hg
      simp [good] at hg'
      rw [hg, Bool.true_and, ← ih]
      unfold Clear
      simp only [val, rep, Nat.pow_succ]
      rw [sub_good _ b 32 _ _ hb0 (by omega) v1 r1, add_good _ b _ _ (by omega) v1 r2, sub_good _ u 1 _ _ hu0 (by omega) v2 r2]
      constructor
      · intro h j hj
        have := h (j + 1) (by omega)
        rw [bt_succ _ _ _ (by omega), bt_succ _ _ _ (by omega), bt_succ _ _ _ (by omega), bt_succ _ _ _ (by omega), bt_succ _ _ _ (by omega)] at this
        exact this
      · intro h j hj
        cases j with
        | zero =>
          rw [bt_zero _ _ (by omega), bt_zero _ _ (by omega), bt_zero _ _ (by omega), bt_zero _ _ (by omega), bt_zero _ _ (by omega)]
          omega
        | succ j =>
          have := h j (by omega)
          rw [bt_succ _ _ _ (by omega), bt_succ _ _ _ (by omega), bt_succ _ _ _ (by omega), bt_succ _ _ _ (by omega), bt_succ _ _ _ (by omega)]
          exact this
    · have hgf : good b = false := by simpa using hg
      rw [hgf, Bool.false_and]
      refine ⟨fun h => ?_, fun h => by cases h⟩
      exfalso
      have h0 := h 0 (by omega)
      simp only [val, rep, Nat.pow_succ] at h0
      obtain ⟨h1, ⟨h2, h3⟩, h4⟩ := h0
      rw [bt_zero _ _ hb0] at h1 h3
      rw [bt_zero _ _ hu0] at h4
      by_cases c1 : b < 32
      · obtain ⟨q, hq⟩ := sub_low _ b 32 _ _ c1 (by omega) v1 r1
        rw [hq, bt_zero _ _ (by omega)] at h1
        omega
      · by_cases c2 : b = 61
        · obtain ⟨q, hq⟩ := sub_low _ u 1 _ _ (by omega) (by omega) v2 r2
          rw [hq, bt_zero _ _ (by omega)] at h4
          omega
        · have c3 : b = 127 ∨ 128 ≤ b := by simp [good] at hgf; omega
          rcases c3 with c3 | c3
          · rw [add_good _ b _ _ (by omega) v1 r2, bt_zero _ _ (by omega)] at h2
            omega
          · omega
theorem bt_bit (x j : Nat) : x.testBit (8 * j + 7) = decide (bt x j = 1) := by
  rw [Nat.testBit_eq_decide_div_mod_eq]; rfl
theorem mask_bits (i : Nat) (hi : i < 64) : (9259542123273814144 : Nat).testBit i = decide (i % 8 = 7) := by
  have : ∀ i : Fin 64, (9259542123273814144 : Nat).testBit i.1 = decide (i.1 % 8 = 7) := by decide +kernel
  exact this ⟨i, hi⟩
theorem mask_zero (X : Nat) : X &&& 9259542123273814144 = 0 ↔ ∀ j, j < 8 → X.testBit (8 * j + 7) = false := by
  constructor
  · intro h j hj
    have e : (X &&& 9259542123273814144).testBit (8 * j + 7) = false := by rw [h]; simp
    rw [Nat.testBit_and, mask_bits _ (by omega), show (8 * j + 7) % 8 = 7 by omega] at e
    simpa using e
  · intro h
    apply Nat.eq_of_testBit_eq
    intro i
    rw [Nat.testBit_and, Nat.zero_testBit]
    by_cases hi : i < 64
    · rw [mask_bits i hi]
      by_cases h7 : i % 8 = 7
      · have := h (i / 8) (by omega)
        rw [show 8 * (i / 8) + 7 = i by omega] at this
        rw [this]; rfl
      · simp [h7]
    · rw [Nat.testBit_lt_two_pow (x := 9259542123273814144) (Nat.lt_of_lt_of_le (by decide : 9259542123273814144 < 2 ^ 64) (Nat.pow_le_pow_right (by omega) (by omega)))]
      simp
theorem not_bits (x i : Nat) (hx : x < 18446744073709551616) (hi : i < 64) : (18446744073709551615 - x).testBit i = !x.testBit i := by
  have := Nat.testBit_two_pow_sub_succ (x := x) (n := 64) hx i
  rw [show (2 : Nat) ^ 64 - (x + 1) = 18446744073709551615 - x by omega] at this
  rw [this]; simp [hi]
/-- the word that the Go text reckons, as naturals -/
def ctl (W : Nat) : Nat := (W + 18446744073709551616 - 2314885530818453536) % 18446744073709551616 &&& (18446744073709551615 - W)
def bey (W : Nat) : Nat := (W + 72340172838076673) % 18446744073709551616 ||| W
def eqw (W : Nat) : Nat := W ^^^ 4412750543122677053
def eqs (t : Nat) : Nat := (t + 18446744073709551616 - 72340172838076673) % 18446744073709551616 &&& (18446744073709551615 - t)
def wordOk (W : Nat) : Bool := decide ((ctl W ||| bey W ||| eqs (eqw W)) &&& 9259542123273814144 = 0)
theorem wordOk_clear (W : Nat) (hW : W < 18446744073709551616) : wordOk W = true ↔ Clear 8 W (eqw W) := by
  have ht : eqw W < 18446744073709551616 := Nat.xor_lt_two_pow (n := 64) hW (by omega)
  unfold wordOk
  rw [decide_eq_true_iff, mask_zero]
  unfold Clear
  refine forall_congr' fun j => ?_
  refine forall_congr' fun hj => ?_
  rw [Nat.testBit_or, Nat.testBit_or]
  unfold ctl bey eqs
  generalize eqw W = t at *
  rw [Nat.testBit_and, Nat.testBit_or, Nat.testBit_and, not_bits _ _ hW (by omega), not_bits _ _ ht (by omega)]
  rw [bt_bit, bt_bit, bt_bit, bt_bit, bt_bit]
  have r32 : rep 32 8 = 2314885530818453536 := by decide
  have r1 : rep 1 8 = 72340172838076673 := by decide
  rw [r32, r1, show (256 : Nat) ^ 8 = 18446744073709551616 by decide]
  have d : ∀ x : Nat, bt x j = 0 ∨ bt x j = 1 := by intro x; unfold bt; omega
  have d1 := d W; have d2 := d t
  have d3 := d ((W + 18446744073709551616 - 2314885530818453536) % 18446744073709551616)
  have d4 := d ((W + 72340172838076673) % 18446744073709551616)
  have d5 := d ((t + 18446744073709551616 - 72340172838076673) % 18446744073709551616)
  rcases d1 with e1 | e1 <;> rcases d2 with e2 | e2 <;> rcases d3 with e3 | e3 <;> rcases d4 with e4 | e4 <;> rcases d5 with e5 | e5 <;> simp [e1, e2, e3, e4, e5]
/-- the bytes of a word -/
def bytesOf : Nat → Nat → List Nat
  | 0, _ => []
  | n + 1, W => (W % 256) :: bytesOf n (W / 256)
theorem val_bytesOf : ∀ n W, W < 256 ^ n → val (bytesOf n W) = W
  | 0, W, h => by simp at h; simp [bytesOf, val, h]
  | n + 1, W, h => by
    rw [Nat.pow_succ] at h
    simp only [bytesOf, val]
    rw [val_bytesOf n (W / 256) (by omega)]; omega
theorem bytesOf_lt : ∀ n W b, b ∈ bytesOf n W → b < 256
  | 0, _, _, h => by cases h
  | n + 1, W, b, h => by
    rcases List.mem_cons.1 h with rfl | h
    · omega
    · exact bytesOf_lt n _ b h
theorem bytesOf_len : ∀ n W, (bytesOf n W).length = n
  | 0, _ => rfl
  | n + 1, W => by simp [bytesOf, bytesOf_len n]
theorem bytesOf_val : ∀ bs : List Nat, (∀ b ∈ bs, b < 256) → bytesOf bs.length (val bs) = bs
  | [], _ => rfl
  | b :: bs, h => by
    have h0 := h b List.mem_cons_self
    have := bytesOf_val bs (fun x hx => h x (List.mem_cons_of_mem _ hx))
    simp only [List.length_cons, bytesOf, val]
    rw [show (b + 256 * val bs) % 256 = b by omega, show (b + 256 * val bs) / 256 = val bs by omega, this]
theorem xor_byte (b : Nat) (hb : b < 256) : (b ^^^ 61) < 256 ∧ ((b ^^^ 61) = 0 ↔ b = 61) ∧ ((b ^^^ 61) < 128 ↔ b < 128) := by
  have : ∀ b : Fin 256, (b.1 ^^^ 61) < 256 ∧ ((b.1 ^^^ 61) = 0 ↔ b.1 = 61) ∧ ((b.1 ^^^ 61) < 128 ↔ b.1 < 128) := by decide +kernel
  exact this ⟨b, hb⟩
theorem xor_mod (x y : Nat) : (x ^^^ y) % 256 = (x % 256) ^^^ (y % 256) := Nat.xor_mod_two_pow (n := 8)
theorem xor_div (x y : Nat) : (x ^^^ y) / 256 = (x / 256) ^^^ (y / 256) := Nat.xor_div_two_pow (n := 8)
theorem tied_xor : ∀ n W, tied (bytesOf n W) (bytesOf n (W ^^^ rep 61 n))
  | 0, _ => trivial
  | n + 1, W => by
    simp only [bytesOf, rep, tied]
    rw [xor_mod, xor_div, show (61 + 256 * rep 61 n) % 256 = 61 by omega, show (61 + 256 * rep 61 n) / 256 = rep 61 n by omega]
    exact ⟨xor_byte _ (by omega), tied_xor n _⟩
theorem wordOk_iff (W : Nat) (hW : W < 18446744073709551616) : wordOk W = (bytesOf 8 W).all good := by
  rw [Bool.eq_iff_iff, wordOk_clear W hW]
  have ht : eqw W < 18446744073709551616 := Nat.xor_lt_two_pow (n := 64) hW (by omega)
  have hr : rep 61 8 = 4412750543122677053 := by decide
  have h := tied_xor 8 W
  rw [hr] at h
  have c := clear_iff (bytesOf 8 W) (bytesOf 8 (eqw W)) (fun b hb => bytesOf_lt _ _ _ hb) h
  rw [val_bytesOf 8 W hW, val_bytesOf 8 (eqw W) ht, bytesOf_len] at c
  exact c
theorem or_step (b c x y : Nat) (hb : b < 256) (hc : c < 256) : (b + 256 * x) ||| (c + 256 * y) = (b ||| c) + 256 * (x ||| y) := by
  have h1 : ((b + 256 * x) ||| (c + 256 * y)) % 256 = b ||| c := by
    rw [Nat.or_mod_two_pow (n := 8)]
    show (b + 256 * x) % 256 ||| (c + 256 * y) % 256 = b ||| c
    rw [show (b + 256 * x) % 256 = b by omega, show (c + 256 * y) % 256 = c by omega]
  have h2 : ((b + 256 * x) ||| (c + 256 * y)) / 256 = x ||| y := by
    have := Nat.or_div_two_pow (a := b + 256 * x) (b := c + 256 * y) (n := 8)
    rw [show (2 : Nat) ^ 8 = 256 by decide] at this
    rw [this, show (b + 256 * x) / 256 = x by omega, show (c + 256 * y) / 256 = y by omega]
  omega
theorem or_low (b x : Nat) (hb : b < 256) : b ||| (256 * x) = b + 256 * x := by
  have := or_step b 0 0 x hb (by omega)
  simpa using this
theorem val_join : ∀ (l m : List Nat), val (l ++ m) = val l + 256 ^ l.length * val m
  | [], m => by simp [val]
  | b :: l, m => by
    rw [List.cons_append, val, val_join l m, val, List.length_cons, Nat.pow_succ, Nat.mul_add, ← Nat.mul_assoc, Nat.mul_comm (256 ^ l.length) 256]
    omega
theorem bytes_good (l : List Nat) (hl : l.length = 8) (h : ∀ b ∈ l, b < 256) : wordOk (val l) = l.all good := by
  have hv := val_lt l h
  rw [hl] at hv
  have e := bytesOf_val l h
  rw [hl] at e
  rw [wordOk_iff _ (by simpa using hv), e]
def zipOr : List Nat → List Nat → List Nat
  | [], m => m
  | a :: l, [] => a :: l
  | a :: l, b :: m => (a ||| b) :: zipOr l m
theorem val_or : ∀ l m : List Nat, (∀ b ∈ l, b < 256) → (∀ b ∈ m, b < 256) → val l ||| val m = val (zipOr l m)
  | [], m, _, _ => by simp [val, zipOr]
  | a :: l, [], _, _ => by simp [val, zipOr]
  | a :: l, b :: m, h1, h2 => by
    have ih := val_or l m (fun x hx => h1 x (List.mem_cons_of_mem _ hx)) (fun x hx => h2 x (List.mem_cons_of_mem _ hx))
    rw [val, val, zipOr, val, or_step _ _ _ _ (h1 a List.mem_cons_self) (h2 b List.mem_cons_self), ih]
theorem or1 (a : Nat) (ha : a < 256) : a ||| a * 2 ^ 0 = val [a] ∧ val [a] ||| a * 2 ^ 0 = val [a] := by
  simp [val]
theorem or2 (a b : Nat) (ha : a < 256) (hb : b < 256) : a ||| b * 2 ^ 8 = val [a, b] ∧ val [a, b] ||| b * 2 ^ 8 = val [a, b] := by
  have e1 : a = val [a] := by simp [val]
  have e2 : b * 2 ^ 8 = val [0, b] := by simp [val]; omega
  refine ⟨?_, ?_⟩
  · rw [e2]; conv => lhs; lhs; rw [e1]
    rw [val_or _ _ (by simp [ha]) (by simp [hb])]; simp [zipOr]
  · rw [e2, val_or _ _ (by simp [ha, hb]) (by simp [hb])]; simp [zipOr]
theorem or3 (a b c : Nat) (ha : a < 256) (hb : b < 256) (hc : c < 256) : a ||| b * 2 ^ 8 = val [a, b] ∧ val [a, b] ||| c * 2 ^ 16 = val [a, b, c] := by
  have e2 : c * 2 ^ 16 = val [0, 0, c] := by simp [val]; omega
  refine ⟨(or2 a b ha hb).1, ?_⟩
  rw [e2, val_or _ _ (by simp [ha, hb]) (by simp [hc])]; simp [zipOr]
theorem or4 (a b c d : Nat) (ha : a < 256) (hb : b < 256) (hc : c < 256) (hd : d < 256) : val [a, b, c, d] ||| val [a, b, c, d] * 2 ^ 0 = val [a, b, c, d] := by simp
theorem or5 (a b c d e : Nat) (ha : a < 256) (hb : b < 256) (hc : c < 256) (hd : d < 256) (he : e < 256) : val [a, b, c, d] ||| val [b, c, d, e] * 2 ^ 8 = val [a, b, c, d, e] := by
  have e2 : val [b, c, d, e] * 2 ^ 8 = val [0, b, c, d, e] := by simp [val]; omega
  rw [e2, val_or _ _ (by simp [ha, hb, hc, hd]) (by simp [hb, hc, hd, he])]; simp [zipOr]
theorem or6 (a b c d e f : Nat) (ha : a < 256) (hb : b < 256) (hc : c < 256) (hd : d < 256) (he : e < 256) (hf : f < 256) : val [a, b, c, d] ||| val [c, d, e, f] * 2 ^ 16 = val [a, b, c, d, e, f] := by
  have e2 : val [c, d, e, f] * 2 ^ 16 = val [0, 0, c, d, e, f] := by simp [val]; omega
  rw [e2, val_or _ _ (by simp [ha, hb, hc, hd]) (by simp [hc, hd, he, hf])]; simp [zipOr]
theorem or7 (a b c d e f g : Nat) (ha : a < 256) (hb : b < 256) (hc : c < 256) (hd : d < 256) (he : e < 256) (hf : f < 256) (hg : g < 256) : val [a, b, c, d] ||| val [d, e, f, g] * 2 ^ 24 = val [a, b, c, d, e, f, g] := by
  have e2 : val [d, e, f, g] * 2 ^ 24 = val [0, 0, 0, d, e, f, g] := by simp [val]; omega
  rw [e2, val_or _ _ (by simp [ha, hb, hc, hd]) (by simp [hd, he, hf, hg])]; simp [zipOr]
/-- the spaces behind n bytes -/
theorem pad_or (l : List Nat) (h : ∀ b ∈ l, b < 256) (n : Nat) (hn : l.length = n) (h8 : n < 8) :
    val l ||| (2314885530818453536 * 2 ^ (8 * n)) % 18446744073709551616 = val (l ++ List.replicate (8 - n) 32) := by
  have hz : ∀ n, ∀ b ∈ List.replicate n 0 ++ List.replicate (8 - n) 32, b < 256 := by
    intro n b hb
    rcases List.mem_append.1 hb with hb | hb
    · rw [(List.mem_replicate.1 hb).2]; omega
    · rw [(List.mem_replicate.1 hb).2]; omega
  have e : (2314885530818453536 * 2 ^ (8 * n)) % 18446744073709551616 = val (List.replicate n 0 ++ List.replicate (8 - n) 32) := by
    have : ∀ n : Fin 8, (2314885530818453536 * 2 ^ (8 * n.1)) % 18446744073709551616 = val (List.replicate n.1 0 ++ List.replicate (8 - n.1) 32) := by decide +kernel
    exact this ⟨n, h8⟩
  have z : ∀ (l : List Nat) (m : List Nat), zipOr l (List.replicate l.length 0 ++ m) = l ++ m := by
    intro l
    induction l with
    | nil => intro m; simp [zipOr]
    | cons a t ih => intro m; rw [List.length_cons, List.replicate_succ, List.cons_append, zipOr, ih]; simp
  rw [e, val_or l _ h (hz n), ← hn, z]
theorem pad_good (l : List Nat) (h : ∀ b ∈ l, b < 256) (n : Nat) (hn : l.length = n) (h8 : n < 8) :
    wordOk (val l ||| (2314885530818453536 * 2 ^ (8 * n)) % 18446744073709551616) = l.all good := by
  rw [pad_or l h n hn h8, bytes_good _ (by simp; omega)]
  · rw [List.all_append]
    have : (List.replicate (8 - n) 32).all good = true := by
      rw [List.all_eq_true]; intro x hx; rw [(List.mem_replicate.1 hx).2]; decide
    rw [this, Bool.and_true]
  · intro b hb
    rcases List.mem_append.1 hb with hb | hb
    · exact h b hb
    · rw [(List.mem_replicate.1 hb).2]; omega
end Qw
