import Derived.Test.Qxb6605565aSep3
namespace Go.Proofs.Qxb6605565a
open Go.RowKit

/-- the test on the state and the brackets says no -/
def Fine (st : Int) (n : Nat) : Prop := (st = 2 ∨ st = 6) → 0 < n

theorem new_row (w : World) (ta : Option Addr) (tn : Nat) (i line : Int) (oa : Option Addr) (on : Nat) (st : Int) (bad : Bool) :
    (w.alloc (.cells #[.slice ta tn tn, .int .i64 i, .int .i64 line, .slice oa on on, .int .u8 st, .bool bad] 43)).rowIs w.heap.size 43 6 (wkf (.slice ta tn tn) i line (.slice oa on on) st bad) :=
  World.rowIs_alloc w #[.slice ta tn tn, .int .i64 i, .int .i64 line, .slice oa on on, .int .u8 st, .bool bad] 43 _ (fun j hj => by
    match j, hj with
    | 0, _ => rfl
    | 1, _ => rfl
    | 2, _ => rfl
    | 3, _ => rfl
    | 4, _ => rfl
    | 5, _ => rfl)
theorem copy_text {w w1 w2 : World} {a : Option Addr} {n : Nat} {zs : List Int} (h : Copy w w1 a n zs) (hb : Below w1.heap.size w1 w2) (o : Obj) :
    TextAt (w2.alloc o) w2.heap.size a n zs := by
  rcases h with ⟨_, h⟩ | ⟨h, ht, hlt⟩
  · exact .inl h
  · refine .inr ⟨_, h, ?_, ?_⟩
    · have := hb.size; omega
    · have h2 : Txt w2 w.heap.size n zs := World.rowIs.of_block ht (hb.block _ hlt)
      exact World.rowIs.alloc h2 o
theorem copy_open {w1 w2 : World} {a : Option Addr} {n : Nat} {zs : List Int} {st : Int} (h : Copy w1 w2 a n zs) (hf : Fine st n) (hn : n ≤ 1048576) (o : Obj) :
    OpenAt (w2.alloc o) w2.heap.size (.slice a n n) st := by
  intro hs
  have hp := hf hs
  rcases h with ⟨_, h⟩ | ⟨h, ht, hlt⟩
  · omega
  · subst h
    exact ⟨_, n, zs, rfl, hp, hn, by omega, World.rowIs.alloc ht o⟩

theorem truth_yes {i n : Nat} {b : Bool} (h : true = (decide (i < n) && !b)) : i < n ∧ b = false := by
  cases b <;> simp at h; exact ⟨h, rfl⟩
theorem truth_no {i n : Nat} {b : Bool} (h : false = (decide (i < n) && !b)) (hl : i < n) : b = true := by
  cases b <;> simp at h; · omega
  · rfl
set_option maxHeartbeats 4000000 in
theorem sep_law (a0 : Option Addr) (len0 cap0 : Nat) (z0 : List Int) (i : Nat) (a2 : Int) (a3 : Option Addr) (len3 cap3 : Nat) (z3 : List Int) (a4 : Int) (w : World)
    (w0 : Came w a0 len0 cap0 z0) (w3 : Came w a3 len3 cap3 z3) (h : len0 + len3 ≤ 1048576) (hi : i ≤ len0) (hf : Fine a4 len3)
    (hs : ((a4 == 2) = true ∧ ((len3 : Int) == 0) = false) ∨ ((a4 == 2) = false ∧ (a4 == 6) = true ∧ ((len3 : Int) == 0) = false) ∨ ((a4 == 2) = false ∧ (a4 == 6) = false)) :
    Calls Try.prog 4 #[.slice a0 len0 cap0, .int .i64 i, .int .i64 a2, .slice a3 len3 cap3, .int .u8 a4, .bool false] w fun e w' => e = .returned (.bool true) ∧ Below w.heap.size w w' := by
  have W0 : Hid _ := w0
  have W3 : Hid _ := w3
  have HF : Hid _ := hf
  clear w0 w3 hf
  rcases hs with ⟨s1, s2⟩ | ⟨s1, s2, s3⟩ | ⟨s1, s2⟩
  all_goals
    go_enter Try.func4, Try.ntmps4
    go_wp2_with (go_at_call 14; go_in)
    refine (clone_any a0 len0 cap0 z0 w W0.out (by omega)).mono ?_
    rintro e w1 ⟨t1, rfl, hC1, hb1⟩
    go_wp2_with fail
    refine (clone_any a3 len3 cap3 z3 w1 (Came.on W3.out hb1) (by omega)).mono ?_
    rintro e w2 ⟨t2, rfl, hC2, hb2⟩
    go_wp2_with fail
    refine (new_any len0 len0 t1 i a2 t2 len3 len3 a4 false w2).mono ?_
    rintro e w3 ⟨rfl, hw3⟩
    have hB3 : Below w.heap.size w w3 := by rw [hw3]; exact (hb1.trans (hb2.mono hb1.size)).alloc (Nat.le_trans hb1.size hb2.size) _
    have hr3 : w3.rowIs w2.heap.size 43 6 (wkf (.slice t1 len0 len0) i a2 (.slice t2 len3 len3) a4 false) := by rw [hw3]; exact new_row w2 _ _ _ _ _ _ _ _
    have ht3 : TextAt w3 w2.heap.size t1 len0 z0 := by rw [hw3]; exact copy_text hC1 hb2 _
    have ho3 : OpenAt w3 w2.heap.size (.slice t2 len3 len3) a4 := by rw [hw3]; exact copy_open hC2 HF.out (by omega) _
    have hge : w.heap.size ≤ w2.heap.size := Nat.le_trans hb1.size hb2.size
    clear hw3 hC1 hC2 hb1 hb2 W0 W3
    generalize w2.heap.size = p at *
    go_wp2_with fail
    refine (zzsep_any p t1 len0 z0 i a2 _ a4 w3 hr3 ht3 hi (by omega) ho3).mono ?_
    rintro e w4 ⟨r, i1, l1, st1, b1, rfl, hL⟩
    have hr4 := hL.row
    have hO4 := hL.only
    have htr := hL.truth
    have hstand := hL.stand
    have HLE : Hid (i1 ≤ len0) := hL.le
    have hB4 : Below w.heap.size w w4 := hB3.trans (hO4.below hge)
    have ht4 := ht3.on hO4
    clear hL hr3 ht3 ho3 hB3 hO4
    go_wp2_with fail
    refine (pos_any p _ i1 l1 _ st1 b1 w4 hr4).mono ?_
    rintro e w5 ⟨rfl, m, rfl⟩
    cases r with
    | true =>
      obtain ⟨hlt, rfl⟩ := truth_yes htr
      have hst := hstand rfl
      have hlt' : (i1 : Int) < (len0 : Int) := by omega
      clear htr hstand
      go_wp2_with fail
      refine (zzsep_still p t1 len0 z0 i1 l1 _ st1 _ (rowIs_drewN hr4 _) (ht4.on ((Only.refl p w4).drewN _)) (by omega) hst).mono ?_
      rintro e w6 ⟨rfl, hr6, ho6⟩
      have hB6 : Below w.heap.size w w6 := (below_drewN hB4 _).trans (ho6.below hge)
      clear hr4 ht4 hst ho6 hB4
      go_wp2_with fail
      refine (pos_any p _ i1 l1 _ st1 false w6 hr6).mono ?_
      rintro e w7 ⟨rfl, m2, rfl⟩
      clear hr6
      go_wp2
      go_ret
      exact ⟨ret_bool (by simp), below_drewN hB6 _⟩
    | false =>
      clear hstand hr4 ht4
      by_cases hlt : i1 < len0
      · obtain rfl := truth_no htr hlt
        have hlt' : (i1 : Int) < (len0 : Int) := by omega
        clear htr
        go_wp2
        go_ret
        exact ⟨rfl, below_drewN hB4 _⟩
      · have hd : decide ((i1 : Int) < (len0 : Int)) = false := decide_eq_false (by omega)
        clear htr
        go_wp2
        go_ret
        exact ⟨rfl, below_drewN hB4 _⟩
end Go.Proofs.Qxb6605565a
