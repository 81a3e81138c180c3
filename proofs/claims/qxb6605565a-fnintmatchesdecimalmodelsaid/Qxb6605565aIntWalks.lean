import Derived.Test.Qxb6605565aInt
import Derived.Test.Qxb6605565aNumWalks
import Derived.Deep.QuietTactic
import Derived.BigQuiet
namespace Go.Proofs.Qxb6605565a
open Go.RowKit
set_option linter.unusedVariables false

theorem isDigit_r (c : Int) (w : World) :
    Calls Try.prog 23 #[.int .u8 c] w fun e w' => e = .returned (.bool (Qn.isD c)) ∧ w = w' := (isDigit_any c w).mono fun _ _ ⟨h, k⟩ => ⟨h, k.symm⟩
theorem isDig_r (c : Int) (w : World) :
    Calls Try.prog 8 #[.int .u8 c] w fun e w' => e = .returned (.bool (Qn.isD c)) ∧ w = w' := (isDig_any c w).mono fun _ _ ⟨h, k⟩ => ⟨h, k.symm⟩
/-- the first k digits: their number, and that they are digits -/
def nTo (ds : List Int) (k : Nat) : Nat := Qi.num (ds.take k)
def gTo (ds : List Int) (k : Nat) : Bool := Qi.dig (ds.take k)
section
variable (ds : List Int) (k : Nat)
theorem take_snocI (h : k < ds.length) : ds.take (k + 1) = ds.take k ++ [ds.getD k 0] := by
  rw [List.take_succ_eq_append_getElem h]; simp [List.getD, List.getElem?_eq_getElem h]
theorem nTo_succ (h : k < ds.length) : nTo ds (k + 1) = nTo ds k * 10 + Qi.dv (ds.getD k 0) := by
  unfold nTo; rw [take_snocI ds k h, Qi.num_snoc]
theorem gTo_succ (h : k < ds.length) : gTo ds (k + 1) = (gTo ds k && Qn.isD (ds.getD k 0)) := by
  unfold gTo; rw [take_snocI ds k h, Qi.dig_snoc]
theorem nTo_lt (h : k ≤ 18) (hk : k ≤ ds.length) (hg : gTo ds k = true) : nTo ds k < 1000000000000000000 := by
  have h1 := Qi.num_lt _ hg
  rw [List.length_take, Nat.min_eq_left hk] at h1
  have h2 : 10 ^ k ≤ 10 ^ 18 := Nat.pow_le_pow_right (by omega) h
  unfold nTo; omega
theorem nTo_all (h : ds.length ≤ k) : nTo ds k = Qi.num ds := by unfold nTo; rw [List.take_of_length_le h]
theorem gTo_all (h : ds.length ≤ k) : gTo ds k = Qi.dig ds := by unfold gTo; rw [List.take_of_length_le h]
theorem dig_bad (h : k < ds.length) (hb : Qn.isD (ds.getD k 0) = false) : Qi.dig ds = false := by
  have e : Qi.dig ds = (gTo ds (k + 1) && Qi.dig (ds.drop (k + 1))) := by
    unfold gTo Qi.dig; rw [← List.all_append, List.take_append_drop]
  rw [e, gTo_succ ds k h, hb, Bool.and_false, Bool.false_and]
end

/-- two to the 63rd, behind a name -/
def M63 : Nat := 9223372036854775808
theorem fits_f (ds : List Int) : Qi.fits false ds = decide (Qi.num ds < M63) := by
  unfold Qi.fits Qi.lim M63
  simp only [Bool.false_eq_true, if_false]
  rw [decide_eq_decide]; omega
theorem fits_t (ds : List Int) : Qi.fits true ds = decide (Qi.num ds ≤ M63) := rfl
/-- the number that Int answers -/
def valOf (neg : Bool) (ds : List Int) : Int := if Qi.fits neg ds then (if neg then -(Qi.num ds : Int) else (Qi.num ds : Int)) else 0
theorem val_no {neg : Bool} {ds : List Int} (h : Qi.fits neg ds = false) : valOf neg ds = 0 := by unfold valOf; rw [h]; rfl
theorem val_pos {ds : List Int} (h : Qi.fits false ds = true) : valOf false ds = (Qi.num ds : Int) := by unfold valOf; rw [h]; rfl
theorem val_neg {ds : List Int} (h : Qi.fits true ds = true) : valOf true ds = -(Qi.num ds : Int) := by unfold valOf; rw [h]; rfl
theorem wrap_pos {V : Nat} (h : V < M63) : wrap64 (V : Int) = (V : Int) := by
  unfold M63 at h
  exact IntWalk.wrap64_in _ ⟨by omega, by omega⟩
theorem wrap_neg {V : Nat} (h : V ≤ M63) : wrap64 (IntKind.u64.wrap (-(V : Int))) = -(V : Int) := by
  unfold M63 at h
  rw [IntKind.wrap_u64]
  unfold wrap64
  omega
theorem ret_iv {a a' : Int} {b b' : Bool} (h : a = a') (k : b = b') : Ending.returned (.tuple #[.int .i64 a, .bool b]) = .returned (.tuple #[.int .i64 a', .bool b']) := by rw [h, k]
theorem dec63 (V : Nat) : decide ((V : Int) < 9223372036854775808) = decide (V < M63) := by
  rw [decide_eq_decide]; unfold M63; omega
theorem dec63le (V : Nat) : decide ((V : Int) ≤ 9223372036854775808) = decide (V ≤ M63) := by
  rw [decide_eq_decide]; unfold M63; omega
theorem M63_i : ((M63 : Nat) : Int) = 9223372036854775808 := rfl

set_option maxHeartbeats 2000000 in
set_option maxRecDepth 100000 in
theorem int_pos (b n cap : Nat) (ts : List Int) (w : World) (hn : ts.length = n) (hc : Cells w b ts) (h1 : 1 ≤ n) (hm : n ≤ 19) (h45 : ts.getD 0 0 ≠ 45) (hd : Qi.dig ts = true) :
    Calls Try.prog 10 #[.slice (some ⟨b, 0, none⟩) n cap] w fun e w' => e = .returned (.tuple #[.int .i64 (valOf false ts), .bool (Qi.fits false ts)]) ∧ w = w' := by
  have HN : Hid (ts.length = n) := hn
  have HCs : Hid (Cells w b ts) := hc
  have HDS : Hid (Qi.dig ts = true) := hd
  obtain ⟨c0, hcd⟩ : ∃ c, c = ts.getD 0 0 := ⟨_, rfl⟩
  have hcell : w.cell? ⟨b, 0, none⟩ = some (.int .u8 c0) := by rw [hcd]; exact hc 0 (by omega)
  have hb : (c0 == 45) = false := beq_eq_false_iff_ne.2 (by rw [hcd]; exact h45)
  have hb2 : (c0 != 45) = true := bne_iff_ne.2 (by rw [hcd]; exact h45)
  clear hn hc hd hcd h45
  have h1' : (0 : Int) < (n : Int) := by omega
  go_enter Try.func10, Try.ntmps10
  go_wp2
  go_loop [5, 20] (fun v j => ∃ k : Nat, k ≤ n ∧ j = .int .i64 k ∧ Hid (gTo ts k = true) ∧ v = .int .u64 (nTo ts k)) (fun _ j => n - (intOf j).toNat)
  case atStart => exact ⟨0, Nat.zero_le _, rfl, rfl, rfl⟩
  case round =>
    obtain ⟨k, hk, rfl, HG, rfl⟩ := hrel
    by_cases hlt : k < n
    · obtain ⟨c, hxd⟩ : ∃ c, c = ts.getD k 0 := ⟨_, rfl⟩
      have hxc : w.cell? ⟨b, k, none⟩ = some (.int .u8 c) := by rw [hxd]; exact HCs.out k (by rw [HN.out]; exact hlt)
      have hlt' : (k : Int) < (n : Int) := by omega
      cases hg : Qn.isD c with
      | false => exact absurd (dig_bad ts k (by rw [HN.out]; exact hlt) (by rw [← hxd]; exact hg)) (by rw [HDS.out]; decide)
      | true =>
        have hci := isD_int hg
        have hnl := nTo_lt ts k (by omega) (by rw [HN.out]; exact hk) HG.out
        have HN1 : Hid (((nTo ts (k + 1) : Nat) : Int) = (nTo ts k : Int) * 10 + (c - 48)) := by
          show _ = _
          rw [nTo_succ ts k (by rw [HN.out]; exact hlt), ← hxd]; unfold Qi.dv; omega
        have HG1 : Hid (gTo ts (k + 1) = true) := by show _ = _; rw [gTo_succ ts k (by rw [HN.out]; exact hlt), HG.out, ← hxd, hg]; rfl
        clear hxd
        go_wp2_with (go_at_call 23; refine (isDigit_r _ _).mono ?_; rintro e w' ⟨rfl, rfl⟩)
        go_round
        case rel => exact ⟨k + 1, by omega, by go_num, HG1, by rw [HN1.out]⟩
        case measure => simp [intOf]; omega
    · have e := nTo_all ts k (by rw [HN.out]; omega)
      have hf := fits_f ts
      have hlt' : ¬ (k : Int) < (n : Int) := by omega
      rw [e]
      clear e
      obtain ⟨V, HVN⟩ : ∃ V, Hid (V = Qi.num ts) := ⟨_, rfl⟩
      rw [← HVN.out] at hf ⊢
      have HV : Hid _ := dec63 V
      go_upto_region 16 with fail
      go_cut [52] (fun s52 wx => w = wx ∧ s52 = .bool (decide (V < M63)))
      case first =>
        go_wp2
        go_meet
        case rel => exact ⟨rfl, by rw [HV.out]⟩
      case rest =>
        obtain ⟨rfl, rfl⟩ := hcut
        clear HV
        cases hB : decide (V < M63) with
        | true =>
          have hV : V < M63 := of_decide_eq_true hB
          have HF : Hid (Qi.fits false ts = true) := by rw [hf]; exact hB
          clear hf
          have HVV : Hid (wrap64 (V : Int) = valOf false ts) := by rw [wrap_pos hV, val_pos HF.out, HVN.out]; rfl
          clear hV hB
          go_wp2
          go_ret2
          exact ⟨ret_iv HVV.out HF.out.symm, rfl⟩
        | false =>
          have HF : Hid (Qi.fits false ts = false) := by rw [hf]; exact hB
          have HVV : Hid (0 = valOf false ts) := by rw [val_no HF.out]; rfl
          clear hB hf
          go_wp2
          go_ret2
          exact ⟨ret_iv HVV.out HF.out.symm, rfl⟩
set_option maxHeartbeats 2000000 in
set_option maxRecDepth 100000 in
theorem int_neg (b n : Nat) (ts : List Int) (w : World) (hn : ts.length = n) (hc : Cells w b (45 :: ts)) (h1 : 1 ≤ n) (hm : n ≤ 19) (hd : Qi.dig ts = true) :
    Calls Try.prog 10 #[.slice (some ⟨b, 0, none⟩) (n + 1) (n + 1)] w fun e w' => e = .returned (.tuple #[.int .i64 (valOf true ts), .bool (Qi.fits true ts)]) ∧ w = w' := by
  have HN : Hid (ts.length = n) := hn
  have HCs : Hid (∀ k, k < n → w.cell? ⟨b, 1 + k, none⟩ = some (.int .u8 (ts.getD k 0))) := fun k hk => by
    have := hc (k + 1) (by simp; omega)
    rw [Nat.add_comm 1 k]
    simpa using this
  have HDS : Hid (Qi.dig ts = true) := hd
  have hcell : w.cell? ⟨b, 0, none⟩ = some (.int .u8 45) := hc 0 (by simp)
  clear hn hc hd
  have h1' : (0 : Int) < (n : Int) + 1 := by omega
  go_enter Try.func10, Try.ntmps10
  go_wp2
  go_loop [5, 20] (fun v j => ∃ k : Nat, k ≤ n ∧ j = .int .i64 k ∧ Hid (gTo ts k = true) ∧ v = .int .u64 (nTo ts k)) (fun _ j => n - (intOf j).toNat)
  case atStart => exact ⟨0, Nat.zero_le _, rfl, rfl, rfl⟩
  case round =>
    obtain ⟨k, hk, rfl, HG, rfl⟩ := hrel
    by_cases hlt : k < n
    · obtain ⟨c, hxd⟩ : ∃ c, c = ts.getD k 0 := ⟨_, rfl⟩
      have hxc : w.cell? ⟨b, 1 + k, none⟩ = some (.int .u8 c) := by rw [hxd]; exact HCs.out k hlt
      have hlt' : (k : Int) < (n : Int) := by omega
      cases hg : Qn.isD c with
      | false => exact absurd (dig_bad ts k (by rw [HN.out]; exact hlt) (by rw [← hxd]; exact hg)) (by rw [HDS.out]; decide)
      | true =>
        have hci := isD_int hg
        have hnl := nTo_lt ts k (by omega) (by rw [HN.out]; exact hk) HG.out
        have HN1 : Hid (((nTo ts (k + 1) : Nat) : Int) = (nTo ts k : Int) * 10 + (c - 48)) := by
          show _ = _
          rw [nTo_succ ts k (by rw [HN.out]; exact hlt), ← hxd]; unfold Qi.dv; omega
        have HG1 : Hid (gTo ts (k + 1) = true) := by show _ = _; rw [gTo_succ ts k (by rw [HN.out]; exact hlt), HG.out, ← hxd, hg]; rfl
        clear hxd
        go_wp2_with (go_at_call 23; refine (isDigit_r _ _).mono ?_; rintro e w' ⟨rfl, rfl⟩)
        go_round
        case rel => exact ⟨k + 1, by omega, by go_num, HG1, by rw [HN1.out]⟩
        case measure => simp [intOf]; omega
    · have e := nTo_all ts k (by rw [HN.out]; omega)
      have hf := fits_t ts
      have hlt' : ¬ (k : Int) < (n : Int) := by omega
      rw [e]
      clear e
      obtain ⟨V, HVN⟩ : ∃ V, Hid (V = Qi.num ts) := ⟨_, rfl⟩
      rw [← HVN.out] at hf ⊢
      have HV : Hid _ := dec63le V
      go_upto_region 14 with fail
      go_cut [41] (fun s41 wx => w = wx ∧ s41 = .bool (decide (V ≤ M63)))
      case first =>
        go_wp2
        go_meet
        case rel => exact ⟨rfl, by rw [HV.out]⟩
      case rest =>
        obtain ⟨rfl, rfl⟩ := hcut
        clear HV
        cases hB : decide (V ≤ M63) with
        | true =>
          have hV : V ≤ M63 := of_decide_eq_true hB
          have HF : Hid (Qi.fits true ts = true) := by rw [hf]; exact hB
          clear hf
          have HVV : Hid (wrap64 (IntKind.u64.wrap (-(V : Int))) = valOf true ts) := by rw [wrap_neg hV, val_neg HF.out, HVN.out]; rfl
          clear hV hB
          go_wp2
          go_ret2
          exact ⟨ret_iv HVV.out HF.out.symm, rfl⟩
        | false =>
          have HF : Hid (Qi.fits true ts = false) := by rw [hf]; exact hB
          have HVV : Hid (0 = valOf true ts) := by rw [val_no HF.out]; rfl
          clear hB hf
          go_wp2
          go_ret2
          exact ⟨ret_iv HVV.out HF.out.symm, rfl⟩
set_option maxHeartbeats 1000000 in
theorem int_pos_long (b n cap : Nat) (ts : List Int) (w : World) (hn : ts.length = n) (hc : Cells w b ts) (h1 : 1 ≤ n) (h45 : ts.getD 0 0 ≠ 45) (hl : 19 < n) (hm : n ≤ 1048576) :
    Calls Try.prog 10 #[.slice (some ⟨b, 0, none⟩) n cap] w fun e w' => e = .returned (.tuple #[.int .i64 0, .bool false]) ∧ w = w' := by
  have HCs : Hid (∀ k, k < n → w.cell? ⟨b, k, none⟩ = some (.int .u8 (ts.getD k 0))) := fun k hk => hc k (by omega)
  obtain ⟨c0, hcd⟩ : ∃ c, c = ts.getD 0 0 := ⟨_, rfl⟩
  have hcell : w.cell? ⟨b, 0, none⟩ = some (.int .u8 c0) := by rw [hcd]; exact hc 0 (by omega)
  have hb : (c0 == 45) = false := beq_eq_false_iff_ne.2 (by rw [hcd]; exact h45)
  clear hcd h45
  have h1' : (0 : Int) < (n : Int) := by omega
  clear HCs hc hn
  go_enter Try.func10, Try.ntmps10
  go_wp2
  go_ret2
  exact ⟨rfl, rfl⟩
set_option maxHeartbeats 1000000 in
theorem int_neg_long (b n : Nat) (ts : List Int) (w : World) (hn : ts.length = n) (hc : Cells w b (45 :: ts)) (h1 : 1 ≤ n) (hl : 19 < n) (hm : n ≤ 1048576) :
    Calls Try.prog 10 #[.slice (some ⟨b, 0, none⟩) (n + 1) (n + 1)] w fun e w' => e = .returned (.tuple #[.int .i64 0, .bool false]) ∧ w = w' := by
  have hcell : w.cell? ⟨b, 0, none⟩ = some (.int .u8 45) := hc 0 (by simp)
  have HCs : Hid (∀ k, k < n → w.cell? ⟨b, 1 + k, none⟩ = some (.int .u8 (ts.getD k 0))) := fun k hk => by
    have := hc (k + 1) (by simp; omega)
    rw [Nat.add_comm 1 k]
    simpa using this
  have h1' : (0 : Int) < (n : Int) + 1 := by omega
  clear HCs hc hn
  go_enter Try.func10, Try.ntmps10
  go_wp2
  go_ret2
  exact ⟨rfl, rfl⟩
set_option maxHeartbeats 1000000 in
theorem int_pos_bad (b n cap : Nat) (ts : List Int) (w : World) (hn : ts.length = n) (hc : Cells w b ts) (h1 : 1 ≤ n) (h45 : ts.getD 0 0 ≠ 45) (hm : n ≤ 19) (hd : Qi.dig ts = false) :
    Calls Try.prog 10 #[.slice (some ⟨b, 0, none⟩) n cap] w fun e w' => e = .returned (.tuple #[.int .i64 0, .bool false]) ∧ w = w' := by
  have HCs : Hid (∀ k, k < n → w.cell? ⟨b, k, none⟩ = some (.int .u8 (ts.getD k 0))) := fun k hk => hc k (by omega)
  obtain ⟨c0, hcd⟩ : ∃ c, c = ts.getD 0 0 := ⟨_, rfl⟩
  have hcell : w.cell? ⟨b, 0, none⟩ = some (.int .u8 c0) := by rw [hcd]; exact hc 0 (by omega)
  have hb : (c0 == 45) = false := beq_eq_false_iff_ne.2 (by rw [hcd]; exact h45)
  clear hcd h45
  have h1' : (0 : Int) < (n : Int) := by omega
  have HN : Hid (ts.length = n) := hn
  have HDS : Hid (Qi.dig ts = false) := hd
  clear hc hn hd
  go_enter Try.func10, Try.ntmps10
  go_wp2
  go_loop [5, 20] (fun v j => ∃ k : Nat, k ≤ n ∧ j = .int .i64 k ∧ Hid (gTo ts k = true) ∧ v = .int .u64 (nTo ts k)) (fun _ j => n - (intOf j).toNat)
  case atStart => exact ⟨0, Nat.zero_le _, rfl, rfl, rfl⟩
  case round =>
    obtain ⟨k, hk, rfl, HG, rfl⟩ := hrel
    by_cases hlt : k < n
    · obtain ⟨c, hxd⟩ : ∃ c, c = ts.getD k 0 := ⟨_, rfl⟩
      have hxc : w.cell? ⟨b, k, none⟩ = some (.int .u8 c) := by rw [hxd]; exact HCs.out k hlt
      have hlt' : (k : Int) < (n : Int) := by omega
      cases hg : Qn.isD c with
      | false =>
        clear hxd
        go_wp2_with (go_at_call 23; refine (isDigit_r _ _).mono ?_; rintro e w' ⟨rfl, rfl⟩)
        go_ret2
        exact ⟨rfl, rfl⟩
      | true =>
        have hci := isD_int hg
        have hnl := nTo_lt ts k (by omega) (by rw [HN.out]; exact hk) HG.out
        have HN1 : Hid (((nTo ts (k + 1) : Nat) : Int) = (nTo ts k : Int) * 10 + (c - 48)) := by
          show _ = _
          rw [nTo_succ ts k (by rw [HN.out]; exact hlt), ← hxd]; unfold Qi.dv; omega
        have HG1 : Hid (gTo ts (k + 1) = true) := by show _ = _; rw [gTo_succ ts k (by rw [HN.out]; exact hlt), HG.out, ← hxd, hg]; rfl
        clear hxd
        go_wp2_with (go_at_call 23; refine (isDigit_r _ _).mono ?_; rintro e w' ⟨rfl, rfl⟩)
        go_round
        case rel => exact ⟨k + 1, by omega, by go_num, HG1, by rw [HN1.out]⟩
        case measure => simp [intOf]; omega
    · exact absurd (gTo_all ts k (by rw [HN.out]; omega)) (by rw [HG.out, HDS.out]; decide)
set_option maxHeartbeats 1000000 in
theorem int_neg_bad (b n : Nat) (ts : List Int) (w : World) (hn : ts.length = n) (hc : Cells w b (45 :: ts)) (h1 : 1 ≤ n) (hm : n ≤ 19) (hd : Qi.dig ts = false) :
    Calls Try.prog 10 #[.slice (some ⟨b, 0, none⟩) (n + 1) (n + 1)] w fun e w' => e = .returned (.tuple #[.int .i64 0, .bool false]) ∧ w = w' := by
  have hcell : w.cell? ⟨b, 0, none⟩ = some (.int .u8 45) := hc 0 (by simp)
  have HCs : Hid (∀ k, k < n → w.cell? ⟨b, 1 + k, none⟩ = some (.int .u8 (ts.getD k 0))) := fun k hk => by
    have := hc (k + 1) (by simp; omega)
    rw [Nat.add_comm 1 k]
    simpa using this
  have h1' : (0 : Int) < (n : Int) + 1 := by omega
  have HN : Hid (ts.length = n) := hn
  have HDS : Hid (Qi.dig ts = false) := hd
  clear hc hn hd
  go_enter Try.func10, Try.ntmps10
  go_wp2
  go_loop [5, 20] (fun v j => ∃ k : Nat, k ≤ n ∧ j = .int .i64 k ∧ Hid (gTo ts k = true) ∧ v = .int .u64 (nTo ts k)) (fun _ j => n - (intOf j).toNat)
  case atStart => exact ⟨0, Nat.zero_le _, rfl, rfl, rfl⟩
  case round =>
    obtain ⟨k, hk, rfl, HG, rfl⟩ := hrel
    by_cases hlt : k < n
    · obtain ⟨c, hxd⟩ : ∃ c, c = ts.getD k 0 := ⟨_, rfl⟩
      have hxc : w.cell? ⟨b, 1 + k, none⟩ = some (.int .u8 c) := by rw [hxd]; exact HCs.out k hlt
      have hlt' : (k : Int) < (n : Int) := by omega
      cases hg : Qn.isD c with
      | false =>
        clear hxd
        go_wp2_with (go_at_call 23; refine (isDigit_r _ _).mono ?_; rintro e w' ⟨rfl, rfl⟩)
        go_ret2
        exact ⟨rfl, rfl⟩
      | true =>
        have hci := isD_int hg
        have hnl := nTo_lt ts k (by omega) (by rw [HN.out]; exact hk) HG.out
        have HN1 : Hid (((nTo ts (k + 1) : Nat) : Int) = (nTo ts k : Int) * 10 + (c - 48)) := by
          show _ = _
          rw [nTo_succ ts k (by rw [HN.out]; exact hlt), ← hxd]; unfold Qi.dv; omega
        have HG1 : Hid (gTo ts (k + 1) = true) := by show _ = _; rw [gTo_succ ts k (by rw [HN.out]; exact hlt), HG.out, ← hxd, hg]; rfl
        clear hxd
        go_wp2_with (go_at_call 23; refine (isDigit_r _ _).mono ?_; rintro e w' ⟨rfl, rfl⟩)
        go_round
        case rel => exact ⟨k + 1, by omega, by go_num, HG1, by rw [HN1.out]⟩
        case measure => simp [intOf]; omega
    · exact absurd (gTo_all ts k (by rw [HN.out]; omega)) (by rw [HG.out, HDS.out]; decide)
end Go.Proofs.Qxb6605565a
