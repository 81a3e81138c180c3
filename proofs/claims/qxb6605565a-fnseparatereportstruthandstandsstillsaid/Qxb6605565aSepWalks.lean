import Derived.Test.Qxb6605565aBase
import Derived.Deep.LoopGhost
import Derived.Deep.QuietTactic
import Derived.BigQuiet
namespace Go.Proofs.Qxb6605565a
open Go.RowKit

/-- the walker's six cells -/
def wkf (tv : Value) (i line : Int) (ov : Value) (st : Int) (bad : Bool) : Nat → Value
  | 0 => tv
  | 1 => .int .i64 i
  | 2 => .int .i64 line
  | 3 => ov
  | 4 => .int .u8 st
  | _ => .bool bad
section
variable (tv : Value) (i line : Int) (ov : Value) (st : Int) (bad : Bool)
theorem wkf1 (x : Int) (j : Nat) : (if j = 1 then .int .i64 x else wkf tv i line ov st bad j) = wkf tv x line ov st bad j := by
  match j with
  | 0 => rfl
  | 1 => rfl
  | 2 => rfl
  | 3 => rfl
  | 4 => rfl
  | j + 5 => rw [if_neg (by omega)]; rfl
theorem wkf2 (x : Int) (j : Nat) : (if j = 2 then .int .i64 x else wkf tv i line ov st bad j) = wkf tv i x ov st bad j := by
  match j with
  | 0 => rfl
  | 1 => rfl
  | 2 => rfl
  | 3 => rfl
  | 4 => rfl
  | j + 5 => rw [if_neg (by omega)]; rfl
theorem wkf4 (x : Int) (j : Nat) : (if j = 4 then .int .u8 x else wkf tv i line ov st bad j) = wkf tv i line ov x bad j := by
  match j with
  | 0 => rfl
  | 1 => rfl
  | 2 => rfl
  | 3 => rfl
  | 4 => rfl
  | j + 5 => rw [if_neg (by omega)]; rfl
theorem wkf5 (x : Bool) (j : Nat) (hj : j < 6) : (if j = 5 then .bool x else wkf tv i line ov st bad j) = wkf tv i line ov st x j := by
  match j, hj with
  | 0, _ => rfl
  | 1, _ => rfl
  | 2, _ => rfl
  | 3, _ => rfl
  | 4, _ => rfl
  | 5, _ => rfl
end
/-- nothing but block p has turned -/
structure Only (p : Nat) (w w' : World) : Prop where
  os : w'.os = w.os
  tape : w'.tape = w.tape
  output : w'.output = w.output
  size : w'.heap.size = w.heap.size
  block : ∀ k, k ≠ p → w'.heap[k]? = w.heap[k]?
namespace Only
theorem refl (p : Nat) (w : World) : Only p w w := ⟨rfl, rfl, rfl, rfl, fun _ _ => rfl⟩
theorem trans {p : Nat} {a b c : World} (h : Only p a b) (k : Only p b c) : Only p a c :=
  ⟨k.os.trans h.os, k.tape.trans h.tape, k.output.trans h.output, k.size.trans h.size, fun i hi => (k.block i hi).trans (h.block i hi)⟩
theorem drew {p : Nat} {a b : World} (h : Only p a b) : Only p a b.drew := ⟨h.os, h.tape, h.output, h.size, h.block⟩
theorem drewN {p : Nat} {a b : World} (h : Only p a b) : ∀ n, Only p a (b.drewN n)
  | 0 => h
  | n + 1 => (h.drewN n).drew
theorem setCell {p : Nat} {a b : World} (h : Only p a b) (o : Nat) (v : Value) : Only p a (b.setCell ⟨p, o, none⟩ v) :=
  h.trans ⟨rfl, rfl, rfl, by simp [World.setCell], fun k hk => Below.heap_setCell _ _ _ _ hk⟩
theorem row {p : Nat} {a b : World} (h : Only p a b) {q : Nat} {t : TypeId} {n : Nat} {f : Nat → Value} (hr : a.rowIs q t n f) (hq : q ≠ p) : b.rowIs q t n f :=
  hr.of_block (h.block q hq)
end Only
theorem rowIs_drewN {w : World} {b : Nat} {t : TypeId} {n : Nat} {f : Nat → Value} (h : w.rowIs b t n f) : ∀ m, (w.drewN m).rowIs b t n f
  | 0 => h
  | m + 1 => (rowIs_drewN h m).drew
/-- the text: nil, or a row elsewhere -/
def TextAt (w : World) (p : Nat) (a : Option Addr) (n : Nat) (zs : List Int) : Prop :=
  n = 0 ∨ ∃ b, a = some ⟨b, 0, none⟩ ∧ b ≠ p ∧ Txt w b n zs
theorem TextAt.on {p : Nat} {w w' : World} {a : Option Addr} {n : Nat} {zs : List Int} (h : TextAt w p a n zs) (o : Only p w w') : TextAt w' p a n zs := by
  rcases h with h | ⟨b, ha, hb, ht⟩
  · exact .inl h
  · exact .inr ⟨b, ha, hb, o.row ht hb⟩
def blank (c : Int) : Bool := c == 32 || (c == 9 || (c == 13 || c == 10))
theorem blank_no {c : Int} (h : blank c = false) : (c == 32) = false ∧ (c == 9) = false ∧ (c == 13) = false ∧ (c == 10) = false := by
  simpa only [blank, Bool.or_eq_false_iff] using h
theorem blank_yes {c : Int} (h : blank c = true) : c = 32 ∨ c = 9 ∨ c = 13 ∨ c = 10 := by
  simpa [blank] using h
/-- where 'space' stands still -/
def Halt (zs : List Int) (n i : Nat) : Prop := i = n ∨ blank (zs.getD i 0) = false

theorem fin_of {zs : List Int} {n i k : Nat} {l line : Int} (hik : i ≤ k) (hl : k = i → l = line) (hh : i < k → ¬ Halt zs n i) : Halt zs n i → k = i ∧ l = line := by
  intro h
  by_cases e : k = i
  · exact ⟨e, hl e⟩
  · exact absurd h (hh (by omega))
set_option maxHeartbeats 1000000 in
theorem space_any (p : Nat) (a : Option Addr) (n : Nat) (zs : List Int) (i : Nat) (line : Int) (ov : Value) (st : Int) (bad : Bool) (w : World)
    (hrow : w.rowIs p 43 6 (wkf (.slice a n n) i line ov st bad)) (ht : TextAt w p a n zs) (hi : i ≤ n) (hn : n ≤ 1048576) :
    Calls Try.prog 28 #[.pointer (some ⟨p, 0, none⟩)] w fun e w' => e = .returned (.tuple #[]) ∧ ∃ (i' : Nat) (line' : Int),
      w'.rowIs p 43 6 (wkf (.slice a n n) i' line' ov st bad) ∧ Only p w w' ∧ i ≤ i' ∧ i' ≤ n ∧ Halt zs n i' ∧ (Halt zs n i → i' = i ∧ line' = line) := by
  go_enter Try.func28, Try.ntmps28
  go_wp2
  go_loopg [] (n - i) (fun g wr => ∃ (k : Nat) (l : Int), g = n - k ∧ i ≤ k ∧ k ≤ n ∧ wr.rowIs p 43 6 (wkf (.slice a n n) k l ov st bad) ∧ Only p w wr ∧ (k = i → l = line) ∧ (i < k → ¬ Halt zs n i))
  case atStart => exact ⟨i, line, rfl, Nat.le_refl _, hi, hrow, Only.refl _ _, fun _ => rfl, fun h => absurd h (Nat.lt_irrefl _)⟩
  case round =>
    obtain ⟨k, l, rfl, hik, hkn, hr, ho, hl, hh⟩ := hrel
    have c0 : wr.cell? ⟨p, 0, none⟩ = some (.slice a n n) := hr.cell (i := 0) (by omega)
    have c1 : wr.cell? ⟨p, 1, none⟩ = some (.int .i64 k) := hr.cell (i := 1) (by omega)
    have c2 : wr.cell? ⟨p, 2, none⟩ = some (.int .i64 l) := hr.cell (i := 2) (by omega)
    have f1 := hr.frozen 1
    have f2 := hr.frozen 2
    by_cases hlt : k < n
    · obtain ⟨b, rfl, hbp, htx⟩ := (ht.on ho).resolve_left (by omega)
      have hc : wr.cell? ⟨b, k, none⟩ = some (.int .u8 (zs.getD k 0)) := htx.cell hlt
      have hlt' : (k : Int) < (n : Int) := by omega
      obtain ⟨c, hcd⟩ : ∃ c, c = zs.getD k 0 := ⟨_, rfl⟩
      rw [← hcd] at hc
      have HC : Hid (c = zs.getD k 0) := hcd
      clear hcd
      by_cases hb : blank c = true
      · have hcs := blank_yes hb
        have hmove : ¬ Halt zs n i := by
          by_cases e : k = i
          · subst e; intro h; rcases h with h | h
            · omega
            · rw [← HC.out, hb] at h; cases h
          · exact hh (by omega)
        have HM : Hid _ := hmove
        clear hb hmove hh
        rcases hcs with rfl | rfl | rfl | rfl
        · go_wp2
          go_quiet (fail)
          go_wp2
          go_quiet (fail)
          go_wp2
          go_roundg (n - (k + 1))
          case measure => omega
          case rel => exact ⟨k + 1, l, rfl, by omega, by omega, ((rowIs_drewN hr _).set 1 _).congr (fun j _ => wkf1 _ _ _ _ _ _ _ j), (ho.drewN _).setCell 1 _, fun e => by omega, fun _ => HM.out⟩
        · go_wp2
          go_quiet (fail)
          go_wp2
          go_quiet (fail)
          go_wp2
          go_roundg (n - (k + 1))
          case measure => omega
          case rel => exact ⟨k + 1, l, rfl, by omega, by omega, ((rowIs_drewN hr _).set 1 _).congr (fun j _ => wkf1 _ _ _ _ _ _ _ j), (ho.drewN _).setCell 1 _, fun e => by omega, fun _ => HM.out⟩
        · go_wp2
          go_quiet (fail)
          go_wp2
          go_quiet (fail)
          go_wp2
          go_roundg (n - (k + 1))
          case measure => omega
          case rel => exact ⟨k + 1, l, rfl, by omega, by omega, ((rowIs_drewN hr _).set 1 _).congr (fun j _ => wkf1 _ _ _ _ _ _ _ j), (ho.drewN _).setCell 1 _, fun e => by omega, fun _ => HM.out⟩
        · go_wp2
          go_quiet (fail)
          go_wp2
          go_quiet (fail)
          go_wp2
          go_roundg (n - (k + 1))
          case measure => omega
          case rel => exact ⟨k + 1, wrap64 (l + 1), rfl, by omega, by omega, ((((rowIs_drewN hr _).set 2 _).congr (fun j _ => wkf2 _ _ _ _ _ _ _ j)).set 1 _).congr (fun j _ => wkf1 _ _ _ _ _ _ _ j), ((ho.drewN _).setCell 2 _).setCell 1 _, fun e => by omega, fun _ => HM.out⟩
      · have hb' : blank c = false := by simpa using hb
        obtain ⟨n1, n2, n3, n4⟩ := blank_no hb'
        have HB : Hid _ := hb'
        clear hb hb'
        have HF : Hid _ := fin_of hik hl hh
        have HH : Hid (Halt zs n k) := .inr (by rw [← HC.out]; exact HB.out)
        clear hl hh
        by_cases hc32 : c ≤ 32
        · go_wp2
          go_quiet (fail)
          go_wp2
          go_quiet (fail)
          go_wp2
          refine bodyPost_ret (results_none Try.results28 _ _ _) rfl ?_
          exact ⟨rfl, k, l, rowIs_drewN hr _, ho.drewN _, hik, hkn, HH.out, HF.out⟩
        · have hcd : decide (c ≤ 32) = false := decide_eq_false hc32
          go_wp2
          go_quiet (fail)
          go_wp2
          go_end0
          exact ⟨rfl, k, l, rowIs_drewN hr _, ho.drewN _, hik, hkn, HH.out, HF.out⟩
    · have hd : decide ((k : Int) < (n : Int)) = false := decide_eq_false (by omega)
      have HF : Hid _ := fin_of hik hl hh
      clear hl hh
      go_wp2
      go_quiet (fail)
      go_wp2
      go_end0
      exact ⟨rfl, k, l, rowIs_drewN hr _, ho.drewN _, hik, hkn, .inl (by omega), HF.out⟩
end Go.Proofs.Qxb6605565a
