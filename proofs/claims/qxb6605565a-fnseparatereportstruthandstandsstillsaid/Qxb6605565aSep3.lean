import Derived.Test.Qxb6605565aSep2
namespace Go.Proofs.Qxb6605565a
open Go.RowKit

set_option maxHeartbeats 1000000 in
theorem sep_still (p : Nat) (a : Option Addr) (n : Nat) (zs : List Int) (i : Nat) (line : Int) (ov : Value) (st : Int) (w : World)
    (hrow : w.rowIs p 43 6 (wkf (.slice a n n) i line ov st false)) (ht : TextAt w p a n zs) (hn : n ≤ 1048576) (hs : Stand zs n i st) :
    Calls Try.prog 24 #[.pointer (some ⟨p, 0, none⟩)] w fun e w' => e = .returned (.bool true) ∧ w'.rowIs p 43 6 (wkf (.slice a n n) i line ov st false) ∧ Only p w w' := by
  have hlt := hs.lt
  go_enter Try.func24, Try.ntmps24
  go_wp2_with fail
  refine (space_any p a n zs i line ov st false w hrow ht (by omega) hn).mono ?_
  rintro e w1 ⟨rfl, i1, l1, hr, ho, hle, hin, _, hsame⟩
  obtain ⟨rfl, rfl⟩ := hsame hs.halt
  have ht1 := ht.on ho
  clear hrow ht hsame
  have c0 : w1.cell? ⟨p, 0, none⟩ = some (.slice a n n) := hr.cell (i := 0) (by omega)
  have c1 : w1.cell? ⟨p, 1, none⟩ = some (.int .i64 i1) := hr.cell (i := 1) (by omega)
  have c4 : w1.cell? ⟨p, 4, none⟩ = some (.int .u8 st) := hr.cell (i := 4) (by omega)
  obtain ⟨b, rfl, hbp, htx⟩ := ht1.resolve_left (by omega)
  have hc : w1.cell? ⟨b, i1, none⟩ = some (.int .u8 (zs.getD i1 0)) := htx.cell hlt
  have hlt' : (i1 : Int) < (n : Int) := by omega
  have hne : ((i1 : Int) == (n : Int)) = false := beq_eq_false_iff_ne.2 (by omega)
  have hcl := hs.close
  have h5 := hs.noColon
  clear hs
  generalize zs.getD i1 0 = c at hc hcl
  by_cases h26 : st = 2 ∨ st = 6
  · have hcc := hcl h26
    clear hcl h5
    rcases h26 with rfl | rfl
    all_goals
      rcases hcc with rfl | rfl
      all_goals
        go_wp2
        go_quiet (fail)
        go_wp2
        go_quiet (fail)
        go_wp2
        go_ret
        exact ⟨rfl, rowIs_drewN hr _, ho.drewN _⟩
  · obtain ⟨s2, s6, s5⟩ := st_no (fun h => h26 (.inl h)) (fun h => h26 (.inr h)) h5
    clear hcl h26 h5
    go_wp2
    go_quiet (fail)
    go_wp2
    go_quiet (fail)
    go_wp2
    go_ret
    exact ⟨rfl, rowIs_drewN hr _, ho.drewN _⟩

/-- the brackets that are open: a row elsewhere, where a state asks for it -/
def OpenAt (w : World) (p : Nat) (ov : Value) (st : Int) : Prop :=
  (st = 2 ∨ st = 6) → ∃ ob on os, ov = .slice (some ⟨ob, 0, none⟩) on on ∧ 0 < on ∧ on ≤ 1048576 ∧ ob ≠ p ∧ Txt w ob on os
theorem sep_any (p : Nat) (a : Option Addr) (n : Nat) (zs : List Int) (i : Nat) (line : Int) (ov : Value) (st : Int) (w : World)
    (hrow : w.rowIs p 43 6 (wkf (.slice a n n) i line ov st false)) (ht : TextAt w p a n zs) (hi : i ≤ n) (hn : n ≤ 1048576) (ho : OpenAt w p ov st) :
    Calls Try.prog 24 #[.pointer (some ⟨p, 0, none⟩)] w fun e w' => ∃ (r : Bool) (i' : Nat) (line' st' : Int) (bad' : Bool), e = .returned (.bool r) ∧
      Left1 p a n zs ov w w' r i' line' st' bad' := by
  by_cases h26 : st = 2 ∨ st = 6
  · obtain ⟨ob, on, os, rfl, h0, hm, hob, hor⟩ := ho h26
    exact sep_end p a n zs i line ob on os st w hrow ht hi hn h26 h0 hm hob hor
  · by_cases h5 : st = 5
    · subst h5; exact sep_colon p a n zs i line ov w hrow ht hi hn
    · exact sep_plain p a n zs i line ov st w hrow ht hi hn (fun h => h26 (.inl h)) (fun h => h26 (.inr h)) h5

set_option maxHeartbeats 400000 in
theorem zzsep_any (p : Nat) (a : Option Addr) (n : Nat) (zs : List Int) (i : Nat) (line : Int) (ov : Value) (st : Int) (w : World)
    (hrow : w.rowIs p 43 6 (wkf (.slice a n n) i line ov st false)) (ht : TextAt w p a n zs) (hi : i ≤ n) (hn : n ≤ 1048576) (ho : OpenAt w p ov st) :
    Calls Try.prog 16 #[.pointer (some ⟨p, 0, none⟩)] w fun e w' => ∃ (r : Bool) (i' : Nat) (line' st' : Int) (bad' : Bool), e = .returned (.bool r) ∧
      Left1 p a n zs ov w w' r i' line' st' bad' := by
  go_enter Try.func16, Try.ntmps16
  go_wp2_with fail
  refine (sep_any p a n zs i line ov st w hrow ht hi hn ho).mono ?_
  rintro e w1 ⟨r, i1, l1, s1, b1, rfl, hL⟩
  clear hrow ht ho
  go_wp2
  go_ret
  exact ⟨r, i1, l1, s1, b1, rfl, hL⟩

set_option maxHeartbeats 400000 in
theorem zzsep_still (p : Nat) (a : Option Addr) (n : Nat) (zs : List Int) (i : Nat) (line : Int) (ov : Value) (st : Int) (w : World)
    (hrow : w.rowIs p 43 6 (wkf (.slice a n n) i line ov st false)) (ht : TextAt w p a n zs) (hn : n ≤ 1048576) (hs : Stand zs n i st) :
    Calls Try.prog 16 #[.pointer (some ⟨p, 0, none⟩)] w fun e w' => e = .returned (.bool true) ∧ w'.rowIs p 43 6 (wkf (.slice a n n) i line ov st false) ∧ Only p w w' := by
  go_enter Try.func16, Try.ntmps16
  go_wp2_with fail
  refine (sep_still p a n zs i line ov st w hrow ht hn hs).mono ?_
  rintro e w1 ⟨rfl, hr, ho⟩
  clear hrow ht hs
  go_wp2
  go_ret
  exact ⟨rfl, hr, ho⟩

set_option maxHeartbeats 400000 in
theorem new_any (tn tc : Nat) (ta : Option Addr) (i line : Int) (oa : Option Addr) (on oc : Nat) (st : Int) (bad : Bool) (w : World) :
    Calls Try.prog 15 #[.slice ta tn tc, .int .i64 i, .int .i64 line, .slice oa on oc, .int .u8 st, .bool bad] w fun e w' => e = .returned (.pointer (some ⟨w.heap.size, 0, none⟩)) ∧
      w' = w.alloc (.cells #[.slice ta tn tc, .int .i64 i, .int .i64 line, .slice oa on oc, .int .u8 st, .bool bad] 43) := by
  go_enter Try.func15, Try.ntmps15
  go_wp2
  go_ret
  exact ⟨rfl, rfl⟩
theorem Only.below {p B : Nat} {w w' : World} (h : Only p w w') (hB : B ≤ p) : Below B w w' :=
  ⟨h.os, h.tape, h.output, Nat.le_of_eq h.size.symm, fun k hk => h.block k (by omega)⟩
theorem below_drewN {B : Nat} {w w' : World} (h : Below B w w') : ∀ n, Below B w (w'.drewN n)
  | 0 => h
  | n + 1 => (below_drewN h n).drew
end Go.Proofs.Qxb6605565a
