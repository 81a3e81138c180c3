import Derived.Test.Qxb6605565aBase
import Derived.Test.Qxb6605565aNumb
import Derived.Deep.Cut
import Derived.Deep.DeepCutAuto
import Derived.Deep.CutBlock
namespace Go.Proofs.Qxb6605565a
open Go.RowKit

/-- the bytes of a text, cell by cell -/
def Cells (w : World) (b : Nat) (ts : List Int) : Prop := ∀ k, k < ts.length → w.cell? ⟨b, k, none⟩ = some (.int .u8 (ts.getD k 0))

theorem isD_int {c : Int} (h : Qn.isD c = true) : 48 ≤ c ∧ c ≤ 57 := by simpa [Qn.isD] using h
theorem isD_no {c : Int} (h : Qn.isD c = false) : c < 48 ∨ 57 < c := by
  simp [Qn.isD] at h; omega

set_option maxHeartbeats 400000 in
theorem isDigit_any (c : Int) (w : World) :
    Calls Try.prog 23 #[.int .u8 c] w fun e w' => e = .returned (.bool (Qn.isD c)) ∧ w' = w := by
  by_cases h1 : 48 ≤ c
  · by_cases h2 : c ≤ 57
    · have e : Hid (Qn.isD c = true) := by show _ = _; simp [Qn.isD, h1, h2]
      go_enter Try.func23, Try.ntmps23
      go_wp2
      go_ret
      exact ⟨ret_bool e.out.symm, rfl⟩
    · have e : Hid (Qn.isD c = false) := by show _ = _; simp [Qn.isD, h2]
      have hd : decide (c ≤ 57) = false := decide_eq_false h2
      go_enter Try.func23, Try.ntmps23
      go_wp2
      go_ret
      exact ⟨ret_bool e.out.symm, rfl⟩
  · have e : Hid (Qn.isD c = false) := by show _ = _; simp [Qn.isD, h1]
    have hd : decide (48 ≤ c) = false := decide_eq_false h1
    go_enter Try.func23, Try.ntmps23
    go_wp2
    go_ret
    exact ⟨ret_bool e.out.symm, rfl⟩
set_option maxHeartbeats 400000 in
theorem isDig_any (c : Int) (w : World) :
    Calls Try.prog 8 #[.int .u8 c] w fun e w' => e = .returned (.bool (Qn.isD c)) ∧ w' = w := by
  by_cases h1 : 48 ≤ c
  · by_cases h2 : c ≤ 57
    · have e : Hid (Qn.isD c = true) := by show _ = _; simp [Qn.isD, h1, h2]
      go_enter Try.func8, Try.ntmps8
      go_wp2
      go_ret
      exact ⟨ret_bool e.out.symm, rfl⟩
    · have e : Hid (Qn.isD c = false) := by show _ = _; simp [Qn.isD, h2]
      have hd : decide (c ≤ 57) = false := decide_eq_false h2
      go_enter Try.func8, Try.ntmps8
      go_wp2
      go_ret
      exact ⟨ret_bool e.out.symm, rfl⟩
  · have e : Hid (Qn.isD c = false) := by show _ = _; simp [Qn.isD, h1]
    have hd : decide (48 ≤ c) = false := decide_eq_false h1
    go_enter Try.func8, Try.ntmps8
    go_wp2
    go_ret
    exact ⟨ret_bool e.out.symm, rfl⟩

theorem drop_at (ts : List Int) (k : Nat) (h : k < ts.length) : ts.drop k = ts.getD k 0 :: ts.drop (k + 1) := by
  rw [List.drop_eq_getElem_cons h]
  simp [List.getD, List.getElem?_eq_getElem h]
theorem drop_end (ts : List Int) (k : Nat) (h : ts.length ≤ k) : ts.drop k = [] := List.drop_eq_nil_of_le h
theorem dl_yes (ts : List Int) (k : Nat) (h : k < ts.length) (hd : Qn.isD (ts.getD k 0) = true) : Qn.dl (ts.drop k) = Qn.dl (ts.drop (k + 1)) + 1 := by
  rw [drop_at ts k h, Qn.dl, if_pos hd]
theorem dl_no (ts : List Int) (k : Nat) (h : k < ts.length) (hd : Qn.isD (ts.getD k 0) = false) : Qn.dl (ts.drop k) = 0 := by
  rw [drop_at ts k h, Qn.dl, hd]; rfl
theorem dl_end (ts : List Int) (k : Nat) (h : ts.length ≤ k) : Qn.dl (ts.drop k) = 0 := by
  rw [drop_end ts k h]; rfl

set_option maxHeartbeats 400000 in
theorem digitsEnd_any (b n cap : Nat) (ts : List Int) (i : Nat) (w : World) (hn : ts.length = n) (hc : Cells w b ts) (hi : i ≤ n) (hm : n ≤ 1048576) :
    Calls Try.prog 29 #[.slice (some ⟨b, 0, none⟩) n cap, .int .i64 i] w fun e w' => e = .returned (.int .i64 ((i + Qn.dl (ts.drop i) : Nat) : Int)) ∧ w' = w := by
  have HN : Hid (ts.length = n) := hn
  have HCs : Hid (Cells w b ts) := hc
  clear hn hc
  go_enter Try.func29, Try.ntmps29
  go_wp2
  go_loop [1] (fun j => ∃ k : Nat, k ≤ n ∧ j = .int .i64 k ∧ Hid (i + Qn.dl (ts.drop i) = k + Qn.dl (ts.drop k))) (fun j => n - (intOf j).toNat)
  case atStart => exact ⟨i, hi, rfl, rfl⟩
  case round =>
    obtain ⟨k, hk, rfl, HK⟩ := hrel
    by_cases hlt : k < n
    · have hcell := HCs.out k (by rw [HN.out]; exact hlt)
      have hlt' : (k : Int) < (n : Int) := by omega
      cases hd : Qn.isD (ts.getD k 0) with
      | true =>
        have HD : Hid _ := dl_yes ts k (by rw [HN.out]; exact hlt) hd
        generalize ts.getD k 0 = c at *
        go_wp2_with (go_at_call 23; refine (isDigit_any _ _).mono ?_; rintro e w' ⟨rfl, rfl⟩)
        go_round
        case rel => exact ⟨k + 1, by omega, by go_num, by have := HK.out; have := HD.out; show _ = _; omega⟩
        case measure => simp [intOf]; omega
      | false =>
        have HD : Hid _ := dl_no ts k (by rw [HN.out]; exact hlt) hd
        generalize ts.getD k 0 = c at *
        go_wp2_with (go_at_call 23; refine (isDigit_any _ _).mono ?_; rintro e w' ⟨rfl, rfl⟩)
        go_ret
        exact ⟨ret_i64 (by have := HK.out; have := HD.out; omega), rfl⟩
    · have hd : decide ((k : Int) < (n : Int)) = false := decide_eq_false (by omega)
      have HD : Hid _ := dl_end ts k (by rw [HN.out]; omega)
      go_wp2
      go_ret
      exact ⟨ret_i64 (by have := HK.out; have := HD.out; omega), rfl⟩
/-! ### numberEnd's answer, place by place -/
def endOf (o : Option Nat) (j : Nat) : Int := match o with | some k => ((j + k : Nat) : Int) | none => -1
theorem endOf_map (o : Option Nat) (c j : Nat) : endOf (o.map (c + ·)) j = endOf o (j + c) := by
  cases o with
  | none => rfl
  | some k => simp only [Option.map_some, endOf]; omega
def nEnd (ts : List Int) (i : Nat) : Int := endOf (Qn.nl (ts.drop i)) i
section
variable (ts : List Int) (i : Nat)
theorem sg_yes (h : i < ts.length) (hc : ts.getD i 0 = 45) : nEnd ts i = endOf (Qn.ip (ts.drop (i + 1))) (i + 1) := by
  unfold nEnd; rw [drop_at ts i h, Qn.nl, hc, Qn.hd_cons, List.tail_cons, if_pos (by decide), endOf_map]
theorem sg_no (h : i < ts.length) (hc : ts.getD i 0 ≠ 45) : nEnd ts i = endOf (Qn.ip (ts.drop i)) i := by
  unfold nEnd; rw [Qn.nl, drop_at ts i h, Qn.hd_cons, if_neg (by simpa using hc)]
theorem ip_end (h : ts.length ≤ i) : endOf (Qn.ip (ts.drop i)) i = -1 := by rw [drop_end ts i h]; rfl
theorem ip_bad (h : i < ts.length) (hc : Qn.isD (ts.getD i 0) = false) : endOf (Qn.ip (ts.drop i)) i = -1 := by
  rw [drop_at ts i h, Qn.ip, Qn.hd_cons, if_neg (by rw [hc]; decide)]; rfl
theorem ip_zero (h : i < ts.length) (hc : ts.getD i 0 = 48) : endOf (Qn.ip (ts.drop i)) i = endOf (Qn.fr (ts.drop (i + 1))) (i + 1) := by
  rw [drop_at ts i h, hc, Qn.ip, Qn.hd_cons, Qn.hd_cons, List.tail_cons, if_pos (by decide), if_pos (by decide), endOf_map]
theorem ip_dig (h : i < ts.length) (hd : Qn.isD (ts.getD i 0) = true) (hc : ts.getD i 0 ≠ 48) :
    endOf (Qn.ip (ts.drop i)) i = endOf (Qn.fr (ts.drop (i + Qn.dl (ts.drop i)))) (i + Qn.dl (ts.drop i)) := by
  rw [Qn.ip, if_pos (by rw [drop_at ts i h, Qn.hd_cons]; exact hd), if_neg (by rw [drop_at ts i h, Qn.hd_cons]; simpa using hc), endOf_map, List.drop_drop]
theorem fr_end (h : ts.length ≤ i) : Qn.fr (ts.drop i) = Qn.ex (ts.drop i) := by rw [drop_end ts i h]; rfl
theorem fr_not (h : i < ts.length) (hc : ts.getD i 0 ≠ 46) : Qn.fr (ts.drop i) = Qn.ex (ts.drop i) := by
  rw [Qn.fr, if_neg (by rw [drop_at ts i h, Qn.hd_cons]; simpa using hc)]
theorem fr_cut (h : i < ts.length) (hc : ts.getD i 0 = 46) (h2 : ts.length ≤ i + 1) : endOf (Qn.fr (ts.drop i)) i = -1 := by
  rw [drop_at ts i h, Qn.fr, hc, Qn.hd_cons, List.tail_cons, if_pos (by decide), drop_end ts (i + 1) h2]; rfl
theorem fr_bad (h : i < ts.length) (hc : ts.getD i 0 = 46) (h2 : i + 1 < ts.length) (hd : Qn.isD (ts.getD (i + 1) 0) = false) : endOf (Qn.fr (ts.drop i)) i = -1 := by
  rw [drop_at ts i h, Qn.fr, hc, Qn.hd_cons, List.tail_cons, if_pos (by decide), drop_at ts (i + 1) h2, Qn.hd_cons, if_neg (by rw [hd]; decide)]; rfl
theorem fr_ok (h : i < ts.length) (hc : ts.getD i 0 = 46) (h2 : i + 1 < ts.length) (hd : Qn.isD (ts.getD (i + 1) 0) = true) :
    endOf (Qn.fr (ts.drop i)) i = endOf (Qn.ex (ts.drop (i + 1 + Qn.dl (ts.drop (i + 1))))) (i + 1 + Qn.dl (ts.drop (i + 1))) := by
  rw [drop_at ts i h, Qn.fr, hc, Qn.hd_cons, List.tail_cons, if_pos (by decide), if_pos (by rw [drop_at ts (i + 1) h2, Qn.hd_cons]; exact hd), endOf_map, List.drop_drop, Nat.add_assoc]
theorem ex_end (h : ts.length ≤ i) : endOf (Qn.ex (ts.drop i)) i = (i : Int) := by rw [drop_end ts i h]; rfl
theorem ex_not (h : i < ts.length) (hc : Qn.isE (ts.getD i 0) = false) : endOf (Qn.ex (ts.drop i)) i = (i : Int) := by
  rw [drop_at ts i h, Qn.ex, Qn.hd_cons, if_neg (by rw [hc]; decide)]; rfl
/-- behind the 'e', the sign passed over, at place j: what is answered there -/
def xEnd (ts : List Int) (j : Nat) : Int := if Qn.hd (ts.drop j) Qn.isD then ((j + Qn.dl (ts.drop j) : Nat) : Int) else -1
theorem ex_sign (h : i < ts.length) (hc : Qn.isE (ts.getD i 0) = true) (h2 : i + 1 < ts.length) (hs : Qn.isS (ts.getD (i + 1) 0) = true) :
    endOf (Qn.ex (ts.drop i)) i = xEnd ts (i + 1 + 1) := by
  rw [drop_at ts i h, Qn.ex, Qn.hd_cons, List.tail_cons, if_pos hc, drop_at ts (i + 1) h2, Qn.hd_cons, List.tail_cons, if_pos hs]
  unfold xEnd
  cases Qn.hd (ts.drop (i + 1 + 1)) Qn.isD
  · rfl
  · simp only [if_true, endOf]; omega
theorem ex_bare (h : i < ts.length) (hc : Qn.isE (ts.getD i 0) = true) (hs : Qn.hd (ts.drop (i + 1)) Qn.isS = false) :
    endOf (Qn.ex (ts.drop i)) i = xEnd ts (i + 1) := by
  rw [drop_at ts i h, Qn.ex, Qn.hd_cons, List.tail_cons, if_pos hc, if_neg (by rw [hs]; decide)]
  unfold xEnd
  cases Qn.hd (ts.drop (i + 1)) Qn.isD
  · rfl
  · simp only [if_true, endOf]; omega
theorem x_end (h : ts.length ≤ i) : xEnd ts i = -1 := by unfold xEnd; rw [drop_end ts i h]; rfl
theorem x_bad (h : i < ts.length) (hd : Qn.isD (ts.getD i 0) = false) : xEnd ts i = -1 := by
  unfold xEnd; rw [drop_at ts i h, Qn.hd_cons, hd]; rfl
theorem x_ok (h : i < ts.length) (hd : Qn.isD (ts.getD i 0) = true) : xEnd ts i = ((i + Qn.dl (ts.drop i) : Nat) : Int) := by
  unfold xEnd; rw [if_pos (by rw [drop_at ts i h, Qn.hd_cons]; exact hd)]
theorem hd_end (p : Int → Bool) (h : ts.length ≤ i) : Qn.hd (ts.drop i) p = false := by rw [drop_end ts i h]; rfl
theorem hd_at (p : Int → Bool) (h : i < ts.length) : Qn.hd (ts.drop i) p = p (ts.getD i 0) := by rw [drop_at ts i h, Qn.hd_cons]
theorem dl_top (h : i ≤ ts.length) : i + Qn.dl (ts.drop i) ≤ ts.length := by
  have := Qn.dl_le (ts.drop i); rw [List.length_drop] at this; omega
end
end Go.Proofs.Qxb6605565a
