import Derived.Test.Qxb6605527aRows
import Derived.WalkKit
import Derived.ProofKit
import Derived.OpenShut
import Derived.SliceStrings
import Derived.Deep.QuietTactic
import Derived.BigQuiet
namespace Go.Proofs.Qxb6605527a
open Go.RowKit

def IsBool (e : Ending) : Prop := ∃ b, e = .returned (.bool b)
theorem isBool (b : Bool) : IsBool (.returned (.bool b)) := ⟨b, rfl⟩

set_option maxRecDepth 100000 in
set_option maxHeartbeats 1000000 in
/-- zzBytes: it answers, and the world stands still. -/
theorem zz_any (a0 a1 : Option Addr) (b0 o0 n0 c0 b1 o1 n1 c1 : Nat) (x y : Nat → ByteArray) (w : World)
    (m0 : n0 ≤ maxLen) (m1 : n1 ≤ maxLen)
    (ha0 : 0 < n0 → a0 = some ⟨b0, o0, none⟩) (ha1 : 0 < n1 → a1 = some ⟨b1, o1, none⟩)
    (h0 : ∀ j, j < n0 → w.cell? ⟨b0, o0 + j, none⟩ = some (.string (x j))) (h1 : ∀ j, j < n1 → w.cell? ⟨b1, o1 + j, none⟩ = some (.string (y j)))
    (z0 : ∀ j, j < n0 → (x j).size ≤ maxLen) (z1 : ∀ j, j < n1 → (y j).size ≤ maxLen) :
    Calls Try.prog 15 #[.slice a0 n0 c0, .slice a1 n1 c1] w fun e w' => IsBool e ∧ w = w' := by
  unfold maxLen at *
  have H0 : Hid _ := h0
  have H1 : Hid _ := h1
  have A0 : Hid _ := ha0
  have A1 : Hid _ := ha1
  have Z0 : Hid _ := z0
  have Z1 : Hid _ := z1
  clear h0 h1 ha0 ha1 z0 z1
  go_enter Try.func15, Try.ntmps15
  by_cases g0 : (1048576 : Int) < n0
  · go_wp2
    go_ret
    exact ⟨isBool _, rfl⟩
  go_wp2
  go_loop [5, 6] (fun t i => ∃ (k : Nat) (T : Int), k ≤ n0 ∧ 0 ≤ T ∧ T ≤ 1048576 ∧ i = .int .i64 k ∧ t = .int .i64 T) (fun _ i => n0 - (intOf i).toNat)
  case atStart => exact ⟨0, n0, Nat.zero_le _, by omega, by omega, rfl, by go_num⟩
  case round =>
    obtain ⟨k, T, hk, hT0, hT1, rfl, rfl⟩ := hrel
    by_cases hlt : k < n0
    · have hc := H0.out k hlt
      have ha := A0.out (by omega)
      have hz := Z0.out k hlt
      obtain ⟨s, hs⟩ : ∃ s, s = x k := ⟨_, rfl⟩
      rw [← hs] at hc hz
      clear hs
      by_cases g1 : (1048576 : Int) < s.size
      · go_wp2
        go_ret
        exact ⟨isBool _, rfl⟩
      by_cases g2 : (1048576 : Int) < T + s.size
      · go_wp2
        go_ret
        exact ⟨isBool _, rfl⟩
      go_wp2
      go_round
      case rel => exact ⟨k + 1, T + s.size, by omega, by omega, by omega, by go_num, by go_num⟩
      case measure => simp [intOf]; omega
    · by_cases g3 : (1048576 : Int) < n1
      · go_wp2
        go_ret
        exact ⟨isBool _, rfl⟩
      by_cases g4 : (1048576 : Int) < T + n1
      · go_wp2
        go_ret
        exact ⟨isBool _, rfl⟩
      go_wp2
      go_loop [5, 7] (fun t i => ∃ (k : Nat) (T : Int), k ≤ n1 ∧ 0 ≤ T ∧ T ≤ 1048576 ∧ i = .int .i64 k ∧ t = .int .i64 T) (fun _ i => n1 - (intOf i).toNat)
      case atStart => exact ⟨0, T + n1, Nat.zero_le _, by omega, by omega, rfl, by go_num⟩
      case round =>
        obtain ⟨k2, T2, hk2, hT2, hT3, rfl, rfl⟩ := hrel
        by_cases hlt2 : k2 < n1
        · have hc := H1.out k2 hlt2
          have ha := A1.out (by omega)
          have hz := Z1.out k2 hlt2
          obtain ⟨s, hs⟩ : ∃ s, s = y k2 := ⟨_, rfl⟩
          rw [← hs] at hc hz
          clear hs
          by_cases g1 : (1048576 : Int) < s.size
          · go_wp2
            go_ret
            exact ⟨isBool _, rfl⟩
          by_cases g2 : (1048576 : Int) < T2 + s.size
          · go_wp2
            go_ret
            exact ⟨isBool _, rfl⟩
          go_wp2
          go_round
          case rel => exact ⟨k2 + 1, T2 + s.size, by omega, by omega, by omega, by go_num, by go_num⟩
          case measure => simp [intOf]; omega
        · go_wp2
          go_ret
          exact ⟨isBool _, rfl⟩
#print axioms zz_any
end Go.Proofs.Qxb6605527a
