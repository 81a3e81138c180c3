import Derived.Test.Qxb6605565aSepWalks
namespace Go.Proofs.Qxb6605565a
open Go.RowKit

set_option maxHeartbeats 400000 in
theorem pos_any (p : Nat) (tv : Value) (i line : Int) (ov : Value) (st : Int) (bad : Bool) (w : World)
    (hrow : w.rowIs p 43 6 (wkf tv i line ov st bad)) :
    Calls Try.prog 17 #[.pointer (some ⟨p, 0, none⟩)] w fun e w' => e = .returned (.tuple #[.int .i64 i, .int .i64 line, .int .u8 st, .bool bad]) ∧ ∃ m, w' = w.drewN m := by
  have c1 : w.cell? ⟨p, 1, none⟩ = some (.int .i64 i) := hrow.cell (i := 1) (by omega)
  have c2 : w.cell? ⟨p, 2, none⟩ = some (.int .i64 line) := hrow.cell (i := 2) (by omega)
  have c4 : w.cell? ⟨p, 4, none⟩ = some (.int .u8 st) := hrow.cell (i := 4) (by omega)
  have c5 : w.cell? ⟨p, 5, none⟩ = some (.bool bad) := hrow.cell (i := 5) (by omega)
  clear hrow
  go_enter Try.func17, Try.ntmps17
  go_wp2
  go_quiet (fail)
  go_wp2
  refine bodyPost_ret (v := .tuple #[.int .i64 i, .int .i64 line, .int .u8 st, .bool bad]) (by simp [results, Try.results17, go_sem]) rfl ⟨rfl, nq, rfl⟩

/-- where 'separate' says yes and stands still -/
structure Stand (zs : List Int) (n i : Nat) (st : Int) : Prop where
  lt : i < n
  halt : Halt zs n i
  close : (st = 2 ∨ st = 6) → zs.getD i 0 = 93 ∨ zs.getD i 0 = 125
  noColon : st ≠ 5

theorem st_no {st : Int} (h2 : st ≠ 2) (h6 : st ≠ 6) (h5 : st ≠ 5) : (st == 2) = false ∧ (st == 6) = false ∧ (st == 5) = false :=
  ⟨beq_eq_false_iff_ne.2 h2, beq_eq_false_iff_ne.2 h6, beq_eq_false_iff_ne.2 h5⟩

/-- what 'separate' leaves -/
structure Left1 (p : Nat) (a : Option Addr) (n : Nat) (zs : List Int) (ov : Value) (w w' : World) (r : Bool) (i' : Nat) (line' st' : Int) (bad' : Bool) : Prop where
  row : w'.rowIs p 43 6 (wkf (.slice a n n) i' line' ov st' bad')
  only : Only p w w'
  le : i' ≤ n
  truth : r = (decide (i' < n) && !bad')
  stand : r = true → Stand zs n i' st'

set_option maxHeartbeats 1000000 in
theorem sep_plain (p : Nat) (a : Option Addr) (n : Nat) (zs : List Int) (i : Nat) (line : Int) (ov : Value) (st : Int) (w : World)
    (hrow : w.rowIs p 43 6 (wkf (.slice a n n) i line ov st false)) (ht : TextAt w p a n zs) (hi : i ≤ n) (hn : n ≤ 1048576)
    (h2 : st ≠ 2) (h6 : st ≠ 6) (h5 : st ≠ 5) :
    Calls Try.prog 24 #[.pointer (some ⟨p, 0, none⟩)] w fun e w' => ∃ (r : Bool) (i' : Nat) (line' st' : Int) (bad' : Bool), e = .returned (.bool r) ∧
      Left1 p a n zs ov w w' r i' line' st' bad' := by
  obtain ⟨s2, s6, s5⟩ := st_no h2 h6 h5
  go_enter Try.func24, Try.ntmps24
  go_wp2_with fail
  refine (space_any p a n zs i line ov st false w hrow ht hi hn).mono ?_
  rintro e w1 ⟨rfl, i1, l1, hr, ho, hle, hin, hh, _⟩
  have ht1 := ht.on ho
  clear hrow ht
  have c0 : w1.cell? ⟨p, 0, none⟩ = some (.slice a n n) := hr.cell (i := 0) (by omega)
  have c1 : w1.cell? ⟨p, 1, none⟩ = some (.int .i64 i1) := hr.cell (i := 1) (by omega)
  have c4 : w1.cell? ⟨p, 4, none⟩ = some (.int .u8 st) := hr.cell (i := 4) (by omega)
  by_cases hlt : i1 < n
  · obtain ⟨b, rfl, hbp, htx⟩ := ht1.resolve_left (by omega)
    have hc : w1.cell? ⟨b, i1, none⟩ = some (.int .u8 (zs.getD i1 0)) := htx.cell hlt
    have hlt' : (i1 : Int) < (n : Int) := by omega
    have hne : ((i1 : Int) == (n : Int)) = false := beq_eq_false_iff_ne.2 (by omega)
    have HL : Hid (Halt zs n i1) := hh
    have HT : Hid ((true : Bool) = (decide (i1 < n) && !false)) := by
      show true = _; rw [decide_eq_true hlt]; rfl
    clear hh
    go_wp2
    go_quiet (fail)
    go_wp2
    go_quiet (fail)
    go_wp2
    go_ret
    exact ⟨true, i1, l1, st, false, rfl, rowIs_drewN hr _, ho.drewN _, hin, HT.out, fun _ => ⟨hlt, HL.out, fun h => absurd h (by omega), h5⟩⟩
  · have heq : ((i1 : Int) == (n : Int)) = true := beq_iff_eq.2 (by omega)
    have HT : Hid ((false : Bool) = (decide (i1 < n) && !false)) := by
      show false = _; rw [decide_eq_false hlt]; rfl
    clear hh
    go_wp2
    go_quiet (fail)
    go_wp2
    go_ret
    exact ⟨false, i1, l1, st, false, rfl, rowIs_drewN hr _, ho.drewN _, hin, HT.out, fun h => by cases h⟩
theorem after2 {W : World} {p : Nat} {tv : Value} {i l : Int} {ov : Value} {st : Int} {bad : Bool} (h : W.rowIs p 43 6 (wkf tv i l ov st bad)) (x : Int) (k : Nat) :
    ((W.setCell ⟨p, 4, none⟩ (.int .u8 x)).setCell ⟨p, 1, none⟩ (.int .i64 ((k : Int) + 1))).rowIs p 43 6 (wkf tv ((k + 1 : Nat) : Int) l ov x bad) := by
  rw [show ((k + 1 : Nat) : Int) = (k : Int) + 1 by omega]
  exact (((h.set 4 _).congr (fun j _ => wkf4 _ _ _ _ _ _ _ j)).set 1 _).congr (fun j _ => wkf1 _ _ _ _ _ _ _ j)
theorem set4 {W : World} {p : Nat} {tv : Value} {i l : Int} {ov : Value} {st : Int} {bad : Bool} (h : W.rowIs p 43 6 (wkf tv i l ov st bad)) (x : Int) :
    (W.setCell ⟨p, 4, none⟩ (.int .u8 x)).rowIs p 43 6 (wkf tv i l ov x bad) := (h.set 4 _).congr (fun j _ => wkf4 _ _ _ _ _ _ _ j)
theorem after1 {W : World} {p : Nat} {tv : Value} {i l : Int} {ov : Value} {st : Int} {bad : Bool} (h : W.rowIs p 43 6 (wkf tv i l ov st bad)) (k : Nat) :
    (W.setCell ⟨p, 1, none⟩ (.int .i64 ((k : Int) + 1))).rowIs p 43 6 (wkf tv ((k + 1 : Nat) : Int) l ov st bad) := by
  rw [show ((k + 1 : Nat) : Int) = (k : Int) + 1 by omega]
  exact (h.set 1 _).congr (fun j _ => wkf1 _ _ _ _ _ _ _ j)
theorem stand_mk {zs : List Int} {n i : Nat} {st : Int} (hst : st = 0 ∨ st = 4) (hh : Halt zs n i) (h : decide (i < n) = true) : Stand zs n i st :=
  ⟨of_decide_eq_true h, hh, fun h => by omega, by omega⟩
theorem truth_mk (i n : Nat) : decide (i < n) = (decide (i < n) && !false) := by simp
set_option maxHeartbeats 1000000 in
theorem sep_colon (p : Nat) (a : Option Addr) (n : Nat) (zs : List Int) (i : Nat) (line : Int) (ov : Value) (w : World)
    (hrow : w.rowIs p 43 6 (wkf (.slice a n n) i line ov 5 false)) (ht : TextAt w p a n zs) (hi : i ≤ n) (hn : n ≤ 1048576) :
    Calls Try.prog 24 #[.pointer (some ⟨p, 0, none⟩)] w fun e w' => ∃ (r : Bool) (i' : Nat) (line' st' : Int) (bad' : Bool), e = .returned (.bool r) ∧
      Left1 p a n zs ov w w' r i' line' st' bad' := by
  go_enter Try.func24, Try.ntmps24
  go_wp2_with fail
  refine (space_any p a n zs i line ov 5 false w hrow ht hi hn).mono ?_
  rintro e w1 ⟨rfl, i1, l1, hr, ho, hle, hin, hh, _⟩
  have ht1 := ht.on ho
  clear hrow ht
  have c0 : w1.cell? ⟨p, 0, none⟩ = some (.slice a n n) := hr.cell (i := 0) (by omega)
  have c1 : w1.cell? ⟨p, 1, none⟩ = some (.int .i64 i1) := hr.cell (i := 1) (by omega)
  have c4 : w1.cell? ⟨p, 4, none⟩ = some (.int .u8 5) := hr.cell (i := 4) (by omega)
  have c5 : w1.cell? ⟨p, 5, none⟩ = some (.bool false) := hr.cell (i := 5) (by omega)
  have f1 := hr.frozen 1
  have f4 := hr.frozen 4
  have f5 := hr.frozen 5
  by_cases hlt : i1 < n
  · have HT1 : Hid (TextAt w1 p a n zs) := ht1
    obtain ⟨b, rfl, hbp, htx⟩ := ht1.resolve_left (by omega)
    have hc : w1.cell? ⟨b, i1, none⟩ = some (.int .u8 (zs.getD i1 0)) := htx.cell hlt
    have hlt' : (i1 : Int) < (n : Int) := by omega
    have hne : ((i1 : Int) == (n : Int)) = false := beq_eq_false_iff_ne.2 (by omega)
    clear hh
    generalize zs.getD i1 0 = c at hc
    by_cases hcol : c = 58
    · subst hcol
      go_wp2
      go_quiet (fail)
      go_wp2
      go_quiet (fail)
      go_wp2_with fail
      refine (space_any p (some ⟨b, 0, none⟩) n zs (i1 + 1) l1 ov 0 false _ (after2 (rowIs_drewN hr _) 0 i1) (HT1.out.on ((((Only.refl p w1).drewN _).setCell 4 _).setCell 1 _)) (by omega) hn).mono ?_
      rintro e w2 ⟨rfl, i2, l2, hr2, ho2, _, hin2, hh2, _⟩
      have ho3 := (((ho.drewN _).setCell 4 _).setCell 1 _).trans ho2
      clear ho2 HT1 htx hc c0 c1 c4 c5 f1 f4 f5 hr ho
      have c0 : w2.cell? ⟨p, 0, none⟩ = some (.slice (some ⟨b, 0, none⟩) n n) := hr2.cell (i := 0) (by omega)
      have c1 : w2.cell? ⟨p, 1, none⟩ = some (.int .i64 i2) := hr2.cell (i := 1) (by omega)
      have HH : Hid _ := hh2
      clear hh2
      go_wp2
      go_quiet (fail)
      go_wp2
      go_ret
      exact ⟨_, i2, l2, 0, false, rfl, rowIs_drewN hr2 _, ho3.drewN _, hin2, truth_mk i2 n, fun h => stand_mk (.inl rfl) HH.out h⟩
    · have hcn : (c != 58) = true := bne_iff_ne.2 hcol
      clear hcol
      go_wp2
      go_quiet (fail)
      go_wp2
      go_quiet (fail)
      go_wp2
      go_ret
      exact ⟨false, i1, l1, 5, true, rfl, ((rowIs_drewN hr _).set 5 _).congr (fun j hj => wkf5 _ _ _ _ _ _ _ j hj), (ho.drewN _).setCell 5 _, hin, by simp, fun h => by cases h⟩
  · have heq : ((i1 : Int) == (n : Int)) = true := beq_iff_eq.2 (by omega)
    have HT : Hid ((false : Bool) = (decide (i1 < n) && !false)) := by
      show false = _; rw [decide_eq_false hlt]; rfl
    clear hh
    go_wp2
    go_quiet (fail)
    go_wp2
    go_ret
    exact ⟨false, i1, l1, 5, false, rfl, rowIs_drewN hr _, ho.drewN _, hin, HT.out, fun h => by cases h⟩
set_option maxHeartbeats 2000000 in
theorem sep_end (p : Nat) (a : Option Addr) (n : Nat) (zs : List Int) (i : Nat) (line : Int) (ob on : Nat) (os : List Int) (st : Int) (w : World)
    (hrow : w.rowIs p 43 6 (wkf (.slice a n n) i line (.slice (some ⟨ob, 0, none⟩) on on) st false)) (ht : TextAt w p a n zs) (hi : i ≤ n) (hn : n ≤ 1048576)
    (hst : st = 2 ∨ st = 6) (hop : 0 < on) (hom : on ≤ 1048576) (hob : ob ≠ p) (hor : Txt w ob on os) :
    Calls Try.prog 24 #[.pointer (some ⟨p, 0, none⟩)] w fun e w' => ∃ (r : Bool) (i' : Nat) (line' st' : Int) (bad' : Bool), e = .returned (.bool r) ∧
      Left1 p a n zs (.slice (some ⟨ob, 0, none⟩) on on) w w' r i' line' st' bad' := by
  go_enter Try.func24, Try.ntmps24
  go_wp2_with fail
  refine (space_any p a n zs i line _ st false w hrow ht hi hn).mono ?_
  rintro e w1 ⟨rfl, i1, l1, hr, ho, hle, hin, hh, _⟩
  have ht1 := ht.on ho
  have ho1 : Txt w1 ob on os := ho.row hor hob
  clear hrow ht hor
  have c0 : w1.cell? ⟨p, 0, none⟩ = some (.slice a n n) := hr.cell (i := 0) (by omega)
  have c1 : w1.cell? ⟨p, 1, none⟩ = some (.int .i64 i1) := hr.cell (i := 1) (by omega)
  have c3 : w1.cell? ⟨p, 3, none⟩ = some (.slice (some ⟨ob, 0, none⟩) on on) := hr.cell (i := 3) (by omega)
  have c4 : w1.cell? ⟨p, 4, none⟩ = some (.int .u8 st) := hr.cell (i := 4) (by omega)
  have c5 : w1.cell? ⟨p, 5, none⟩ = some (.bool false) := hr.cell (i := 5) (by omega)
  have f1 := hr.frozen 1
  have f4 := hr.frozen 4
  have f5 := hr.frozen 5
  by_cases hlt : i1 < n
  · have HT1 : Hid (TextAt w1 p a n zs) := ht1
    obtain ⟨b, rfl, hbp, htx⟩ := ht1.resolve_left (by omega)
    have hc : w1.cell? ⟨b, i1, none⟩ = some (.int .u8 (zs.getD i1 0)) := htx.cell hlt
    have hlt' : (i1 : Int) < (n : Int) := by omega
    have hne : ((i1 : Int) == (n : Int)) = false := beq_eq_false_iff_ne.2 (by omega)
    have HL : Hid (Halt zs n i1) := hh
    have HT : Hid ((true : Bool) = (decide (i1 < n) && !false)) := by
      show true = _; rw [decide_eq_true hlt]; rfl
    clear hh
    obtain ⟨c, hcd⟩ : ∃ c, c = zs.getD i1 0 := ⟨_, rfl⟩
    rw [← hcd] at hc
    have HC : Hid (c = zs.getD i1 0) := hcd
    clear hcd
    by_cases hclose : c = 93 ∨ c = 125
    · have HCL : Hid (zs.getD i1 0 = 93 ∨ zs.getD i1 0 = 125) := by rw [← HC.out]; exact hclose
      clear HC
      rcases hclose with rfl | rfl
      · rcases hst with rfl | rfl
        all_goals
          go_wp2
          go_quiet (fail)
          go_wp2
          go_quiet (fail)
          go_wp2
          go_ret
          exact ⟨true, i1, l1, _, false, rfl, rowIs_drewN hr _, ho.drewN _, hin, HT.out, fun _ => ⟨hlt, HL.out, fun _ => HCL.out, by omega⟩⟩
      · rcases hst with rfl | rfl
        all_goals
          go_wp2
          go_quiet (fail)
          go_wp2
          go_quiet (fail)
          go_wp2
          go_ret
          exact ⟨true, i1, l1, _, false, rfl, rowIs_drewN hr _, ho.drewN _, hin, HT.out, fun _ => ⟨hlt, HL.out, fun _ => HCL.out, by omega⟩⟩
    · have e1 : (c == 93) = false := beq_eq_false_iff_ne.2 (fun h => hclose (.inl h))
      have e2 : (c == 125) = false := beq_eq_false_iff_ne.2 (fun h => hclose (.inr h))
      clear hclose HC
      by_cases hcom : c = 44
      · subst hcom
        have hoc : w1.cell? ⟨ob, on - 1, none⟩ = some (.int .u8 (os.getD (on - 1) 0)) := ho1.cell (by omega)
        have hpo : p ≠ ob := fun h => hob h.symm
        have hop' : (0 : Int) < (on : Int) := by omega
        generalize os.getD (on - 1) 0 = d at hoc
        by_cases hd : d = 123
        · subst hd
          rcases hst with rfl | rfl
          all_goals
            go_wp2
            go_quiet (fail)
            go_wp2
            go_quiet (fail)
            go_wp2
            go_quiet (fail)
            go_wp2_with fail
            refine (space_any p (some ⟨b, 0, none⟩) n zs (i1 + 1) l1 _ 4 false _ (after2 (rowIs_drewN (set4 (rowIs_drewN hr _) 0) _) 4 i1) (HT1.out.on ((((((Only.refl p w1).drewN _).setCell 4 _).drewN _).setCell 4 _).setCell 1 _)) (by omega) hn).mono ?_
            rintro e w2 ⟨rfl, i2, l2, hr2, ho2, _, hin2, hh2, _⟩
            have ho3 := (((((ho.drewN _).setCell 4 _).drewN _).setCell 4 _).setCell 1 _).trans ho2
            clear ho2 HT1 htx hc c0 c1 c3 c4 c5 f1 f4 f5 hr ho HL HT hoc ho1
            have c0 : w2.cell? ⟨p, 0, none⟩ = some (.slice (some ⟨b, 0, none⟩) n n) := hr2.cell (i := 0) (by omega)
            have c1 : w2.cell? ⟨p, 1, none⟩ = some (.int .i64 i2) := hr2.cell (i := 1) (by omega)
            have HH : Hid _ := hh2
            clear hh2
            go_wp2
            go_quiet (fail)
            go_wp2
            go_ret
            exact ⟨_, i2, l2, 4, false, rfl, rowIs_drewN hr2 _, ho3.drewN _, hin2, truth_mk i2 n, fun h => stand_mk (.inr rfl) HH.out h⟩
        · have hdn : (d == 123) = false := beq_eq_false_iff_ne.2 hd
          clear hd
          rcases hst with rfl | rfl
          all_goals
            go_wp2
            go_quiet (fail)
            go_wp2
            go_quiet (fail)
            go_wp2
            go_quiet (fail)
            go_wp2_with fail
            refine (space_any p (some ⟨b, 0, none⟩) n zs (i1 + 1) l1 _ 0 false _ (after1 (rowIs_drewN (set4 (rowIs_drewN hr _) 0) _) i1) (HT1.out.on (((((Only.refl p w1).drewN _).setCell 4 _).drewN _).setCell 1 _)) (by omega) hn).mono ?_
            rintro e w2 ⟨rfl, i2, l2, hr2, ho2, _, hin2, hh2, _⟩
            have ho3 := ((((ho.drewN _).setCell 4 _).drewN _).setCell 1 _).trans ho2
            clear ho2 HT1 htx hc c0 c1 c3 c4 c5 f1 f4 f5 hr ho HL HT hoc ho1
            have c0 : w2.cell? ⟨p, 0, none⟩ = some (.slice (some ⟨b, 0, none⟩) n n) := hr2.cell (i := 0) (by omega)
            have c1 : w2.cell? ⟨p, 1, none⟩ = some (.int .i64 i2) := hr2.cell (i := 1) (by omega)
            have HH : Hid _ := hh2
            clear hh2
            go_wp2
            go_quiet (fail)
            go_wp2
            go_ret
            exact ⟨_, i2, l2, 0, false, rfl, rowIs_drewN hr2 _, ho3.drewN _, hin2, truth_mk i2 n, fun h => stand_mk (.inl rfl) HH.out h⟩
      · have hcn : (c != 44) = true := bne_iff_ne.2 hcom
        clear hcom
        rcases hst with rfl | rfl
        all_goals
          go_wp2
          go_quiet (fail)
          go_wp2
          go_quiet (fail)
          go_wp2
          go_ret
          exact ⟨false, i1, l1, _, true, rfl, ((rowIs_drewN hr _).set 5 _).congr (fun j hj => wkf5 _ _ _ _ _ _ _ j hj), (ho.drewN _).setCell 5 _, hin, by simp, fun h => by cases h⟩
  · have heq : ((i1 : Int) == (n : Int)) = true := beq_iff_eq.2 (by omega)
    have HT : Hid ((false : Bool) = (decide (i1 < n) && !false)) := by
      show false = _; rw [decide_eq_false hlt]; rfl
    clear hh hst
    go_wp2
    go_quiet (fail)
    go_wp2
    go_ret
    exact ⟨false, i1, l1, st, false, rfl, rowIs_drewN hr _, ho.drewN _, hin, HT.out, fun h => by cases h⟩
end Go.Proofs.Qxb6605565a
