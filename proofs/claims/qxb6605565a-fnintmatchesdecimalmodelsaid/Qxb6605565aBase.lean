import Derived.Test.Qxb6605565aProg
import Derived.WalkKit
import Derived.WalkSpells
import Derived.WalkLawsBesides
import Derived.OpenShut
import Derived.ProofKit
import Derived.Deep.OwnRows
import Derived.Outline
namespace Go.Proofs.Qxb6605565a
open Go.RowKit

theorem info5 : (Try.prog.info? 5).map (fun i => (i.zero, i.size, i.bytes)) = some (some (.int .u8 0), 1, 1) := by kernel_rfl
/-- a row of the call's own, at block b, that holds the numbers zs -/
def Txt (w : World) (b : Nat) (n : Nat) (zs : List Int) : Prop := w.rowIs b 5 n (fun i => .int .u8 (zs.getD i 0))

theorem ret_bool {a b : Bool} (h : a = b) : Ending.returned (.bool a) = .returned (.bool b) := by rw [h]
theorem ret_i64 {a b : Int} (h : a = b) : Ending.returned (.int .i64 a) = .returned (.int .i64 b) := by rw [h]

set_option maxHeartbeats 400000 in
theorem clone_nil (w : World) :
    Calls Try.prog 9 #[.slice none 0 0] w fun e w' => e = .returned (.slice none 0 0) ∧ w' = w := by
  have hnil := fun w => Lib.run_eql_slice_nil (P := Try.prog) w 22 5 none 0 0 0 0 Try.underlying22
  go_enter Try.func9, Try.ntmps9
  go_wp2
  go_ret
  exact ⟨rfl, rfl⟩

/-- what is copied so far -/
def cpTo (zs : List Int) (k i : Nat) : Int := if i < k then zs.getD i 0 else 0
theorem cpTo_step (zs : List Int) (k j : Nat) : (if j = k then (Value.int .u8 (zs.getD k 0)) else .int .u8 (cpTo zs k j)) = .int .u8 (cpTo zs (k + 1) j) := by
  unfold cpTo
  by_cases h : j = k
  · subst h; simp
  · rw [if_neg h]
    by_cases h2 : j < k
    · rw [if_pos h2, if_pos (by omega)]
    · rw [if_neg h2, if_neg (by omega)]

theorem cell_lt {w : World} {b o : Nat} {v : Value} (h : w.cell? ⟨b, o, none⟩ = some v) : b < w.heap.size := by
  rcases Nat.lt_or_ge b w.heap.size with h1 | h1
  · exact h1
  · exfalso
    have : w.heap[b]? = none := Array.getElem?_eq_none h1
    simp [World.cell?, this] at h

set_option maxHeartbeats 400000 in
theorem clone_some (x : Addr) (len cap : Nat) (zs : List Int) (w : World) (hl : len ≤ cap) (hb : len ≤ 1048576) (hz : zs.length = cap)
    (hcell : ∀ i, i < zs.length → w.cell? (x.add i) = some (.int .u8 (zs.getD i 0))) :
    Calls Try.prog 9 #[.slice (some x) len cap] w fun e w' => e = .returned (.slice (some ⟨w.heap.size, 0, none⟩) len len) ∧ Txt w' w.heap.size len zs ∧ Below w.heap.size w w' ∧ w'.heap.size = w.heap.size + 1 := by
  have hmk := run_make_row' (P := Try.prog) 22 5 (.int .u8 0) 1 Try.underlying22 info5 rfl .i64 .i64 len (by omega) (by omega)
  have hnil := fun w => Lib.run_eql_slice_nil (P := Try.prog) w 22 5 (some x) len cap 0 0 Try.underlying22
  go_enter Try.func9, Try.ntmps9
  go_wp2
  go_loopw [4] (fun i wr => ∃ k : Nat, k ≤ len ∧ i = .int .i64 k ∧ wr.rowIs w.heap.size 5 len (fun j => .int .u8 (cpTo zs k j)) ∧ Below w.heap.size w wr ∧ Hid (wr.heap.size = w.heap.size + 1)) (fun i _ => len - (intOf i).toNat)
  case atStart => exact ⟨0, Nat.zero_le _, rfl, (World.rowIs_made w (.int .u8 0) len 5).congr (fun i _ => by unfold cpTo; rw [if_neg (by omega)]), (Below.refl _ _).alloc (Nat.le_refl _) _, by show (w.heap.push _).size = _; simp⟩
  case round =>
    obtain ⟨k, hk, rfl, hrow, hbel, HS⟩ := hrel
    clear hmk hnil
    by_cases hlt : k < len
    · obtain ⟨b, off, rfl, hc⟩ := ints_at hcell (by omega)
      clear hcell
      have hbl := cell_lt (hc k (by omega))
      have hsrc : wr.cell? ⟨b, off + k, none⟩ = some (.int .u8 (zs.getD k 0)) := (hbel.cell (p := ⟨b, off + k, none⟩) hbl).trans (hc k (by omega))
      have hd := hrow.cell (i := k) hlt
      have hf := hrow.frozen k
      clear hc
      go_wp2
      go_roundw
      case rel => exact ⟨k + 1, by omega, by go_num, (hrow.set k _).congr (fun j _ => cpTo_step zs k j), hbel.setCell (Nat.le_refl _) _, by show ((wr.setCell _ _).heap.size = _); rw [World.setCell]; simpa using HS.out⟩
      case measure => simp [intOf]; omega
    · obtain rfl : k = len := by omega
      go_wp2
      go_ret
      exact ⟨rfl, hrow.congr (fun i hi => by unfold cpTo; rw [if_pos hi]), hbel, HS.out⟩
/-- a slice of bytes that came in: nil, or a row of 'cap' cells -/
def Came (w : World) (a : Option Addr) (len cap : Nat) (zs : List Int) : Prop :=
  (a = none ∧ len = 0 ∧ cap = 0) ∨ ∃ x, a = some x ∧ len ≤ cap ∧ zs.length = cap ∧ ∀ i, i < zs.length → w.cell? (x.add i) = some (.int .u8 (zs.getD i 0))
theorem Came.on {w w' : World} {a : Option Addr} {len cap : Nat} {zs : List Int} (h : Came w a len cap zs) (hb : Below w.heap.size w w') : Came w' a len cap zs := by
  rcases h with h | ⟨x, rfl, hl, hz, hc⟩
  · exact .inl h
  · refine .inr ⟨x, rfl, hl, hz, fun i hi => ?_⟩
    have hlt : (x.add i).block < w.heap.size := World.block_lt_of_cell? w _ (hc i hi)
    exact (hb.cell hlt).trans (hc i hi)
/-- its copy: nil, or a row of the call's own -/
def Copy (w w' : World) (a : Option Addr) (len : Nat) (zs : List Int) : Prop :=
  (a = none ∧ len = 0) ∨ (a = some ⟨w.heap.size, 0, none⟩ ∧ Txt w' w.heap.size len zs ∧ w.heap.size < w'.heap.size)
theorem clone_any (a : Option Addr) (len cap : Nat) (zs : List Int) (w : World) (h : Came w a len cap zs) (hb : len ≤ 1048576) :
    Calls Try.prog 9 #[.slice a len cap] w fun e w' => ∃ a', e = .returned (.slice a' len len) ∧ Copy w w' a' len zs ∧ Below w.heap.size w w' := by
  rcases h with ⟨rfl, rfl, rfl⟩ | ⟨x, rfl, hl, hz, hc⟩
  · exact (clone_nil w).mono fun e w' ⟨he, hw⟩ => by subst hw; exact ⟨none, he, .inl ⟨rfl, rfl⟩, Below.refl _ _⟩
  · exact (clone_some x len cap zs w hl hb hz hc).mono fun e w' ⟨he, ht, hbl, hs⟩ => ⟨_, he, .inr ⟨rfl, ht, by omega⟩, hbl⟩
end Go.Proofs.Qxb6605565a
