import Derived.Test.Qxb6605527aDecWalks
import Derived.ProofKit
import Derived.Deep.OwnRows
import Derived.Laws.IdiomStrings
namespace Go.Proofs.Qxb6605527a
open Go.RowKit

theorem info5 : (Try.prog.info? 5).map (fun i => (i.zero, i.size, i.bytes)) = some (some (.int .u8 0), 1, 1) := by kernel_rfl
/-- the cells of the row when the last W - k digits are written -/
def pc (N W k j : Nat) : Int := if k ≤ j then ((48 + N / 10 ^ (W - 1 - j) % 10 : Nat) : Int) else 0
theorem pc_step (N W k m : Nat) (hk : k + 1 ≤ W) (hm : m = N / 10 ^ (W - (k + 1))) (j : Nat) :
    (if j = k then (Value.int .u8 (48 + (m : Int) % 10)) else .int .u8 (pc N W (k + 1) j)) = .int .u8 (pc N W k j) := by
  by_cases h : j = k
  · subst h
    rw [if_pos rfl]
    have e : pc N W j j = 48 + (m : Int) % 10 := by
      unfold pc
      rw [if_pos (Nat.le_refl _), hm, show W - 1 - j = W - (j + 1) by omega]
      omega
    rw [e]
  · rw [if_neg h]
    unfold pc
    by_cases h2 : k ≤ j
    · rw [if_pos h2, if_pos (by omega)]
    · rw [if_neg h2, if_neg (by omega)]
theorem div_step (N W k m : Nat) (hk : k + 1 ≤ W) (hm : m = N / 10 ^ (W - (k + 1))) : m / 10 = N / 10 ^ (W - k) := by
  rw [hm, Nat.div_div_eq_div_mul, ← Nat.pow_succ, show (W - (k + 1)).succ = W - k by omega]
theorem pc_done (N W j : Nat) (h : j < (Qd.pad N W).length) : (((Qd.pad N W)[j]).toNat : Int) = pc N W 0 j := by
  have hj : j < W := by rwa [Qd.pad_len] at h
  have e := Qd.pad_get W N j hj
  rw [List.getElem?_eq_getElem h] at e
  simp only [Option.some.injEq] at e
  rw [e, UInt8.toNat_ofNat']
  unfold pc
  rw [if_pos (Nat.zero_le _)]
  omega

set_option maxHeartbeats 400000 in
theorem zeroPadded_any (N W : Nat) (w : World) (hW : W ≤ 9) (hN : N < 18446744073709551616) :
    Calls Try.prog 11 #[.int .u64 N, .int .i64 W] w fun e w' => e = .returned (.string ⟨(Qd.pad N W).toArray⟩) ∧ Grown w w' := by
  have hmk := run_make_row' (P := Try.prog) 34 5 (.int .u8 0) 1 Try.underlying34 info5 rfl .i64 .i64 W (by omega) (by omega)
  go_enter Try.func11, Try.ntmps11
  go_wp2
  go_loopw [0, 6] (fun n i wr => ∃ k m : Nat, k ≤ W ∧ i = .int .i64 ((k : Int) - 1) ∧ Hid (m = N / 10 ^ (W - k)) ∧ m < 18446744073709551616 ∧ n = .int .u64 (m : Int) ∧ wr.rowIs w.heap.size 5 W (fun j => .int .u8 (pc N W k j)) ∧ Grown w wr) (fun _ i _ => (intOf i + 1).toNat)
  case atStart => exact ⟨W, N, Nat.le_refl _, rfl, by rw [Nat.sub_self]; exact (Nat.div_one N).symm, hN, rfl, (World.rowIs_made w (.int .u8 0) W 5).congr (fun i hi => by unfold pc; rw [if_neg (by omega)]), (Grown.refl _).alloc _ _⟩
  case round =>
    obtain ⟨k, m, hk, rfl, Hm, hml, rfl, hrow, hg⟩ := hrel
    cases k with
    | zero =>
      have hcv : (convert 34 9 (.slice (some ⟨w.heap.size, 0, none⟩) W W)).run Try.prog wr = .ok (.string ⟨(Qd.pad N W).toArray⟩) wr := by
        have := run_convert_bytes_back (P := Try.prog) wr 34 9 5 ⟨w.heap.size, 0, none⟩ W (Qd.pad N W) Try.underlying34 Try.underlying5 Try.underlying9 (fun j hj => by
          rw [pc_done N W j hj]
          have := hrow.cell (i := j) (by rwa [Qd.pad_len] at hj)
          have e : (⟨w.heap.size, 0, none⟩ : Addr).add j = ⟨w.heap.size, j, none⟩ := by unfold Addr.add; split <;> simp_all
          rw [e]; exact this)
        rwa [Qd.pad_len] at this
      clear hmk
      go_wp2
      go_ret
      exact ⟨rfl, hg⟩
    | succ k =>
      have hc := hrow.cell (i := k) (by omega)
      have hf := hrow.frozen k
      clear hmk
      go_wp2
      go_roundw
      case rel => exact ⟨k, m / 10, by omega, by go_num, div_step N W k m hk Hm.out, by omega, by go_num, (hrow.set k _).congr (fun j _ => pc_step N W k m hk Hm.out j), hg.setCell (Nat.le_refl _) _⟩
      case measure => simp [intOf]
end Go.Proofs.Qxb6605527a
