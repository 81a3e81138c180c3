import Derived.Test.Qxb6605527aDt
import Derived.Sort.Walk0
namespace Go.Proofs.Qxb6605527a
open Go.RowKit Go.Maps Go.Sort
theorem tl (a : ByteArray) : a.toList = a.data.toList := ByteArray.toList_eq a
theorem bl (a b : ByteArray) : Op.bytesLess a.toList b.toList = decide (a.data.toList < b.data.toList) := by
  rw [tl, tl]; exact bytesLess_eq _ _
theorem ex (s : ByteArray) (p j : Nat) : (s.extract p j).data.toList = (s.data.toList.drop p).take (j - p) := by
  simp [ByteArray.data_extract]
theorem by_get (s : ByteArray) (j : Nat) (h : j < s.size) : s.data.toList[j]? = some s[j] := by
  rw [Array.getElem?_toList]
  exact Array.getElem?_eq_getElem h
/-- what the map answers to 'v, ok := m[k]' -/
theorem look9ok {H : Type} {D : DataW H} {w : World} {b n : Nat} (hown : w.ownsMap Try.prog 9 (plainElem Try.prog 9) b n D) (kk : ByteArray) (hX : kk.size ≤ maxLen) :
    ∃ v : ByteArray, (Instr.lookup 31 (.map (some b)) (.string kk) true).run Try.prog w = .ok (.tuple #[.string v, .bool (has D (.string kk.data.toList))]) w ∧ v.data.toList = vof D kk.data.toList := by
  have hkey : keyOf Try.prog 9 (.string kk) = some (.string kk.data.toList) := WideMaps.keyOf_string_mk Try.underlying9 hX
  obtain ⟨v, ps, hrun, hv⟩ := hown.look_ok law9 Try.underlying31 (zero9 _) (zd := .lit (.string [])) (zp := []) (by simpa using plainElem_string (H := H) (P := Try.prog) Try.underlying9 (s := ⟨#[]⟩) (by decide)) hkey
  obtain ⟨s, rfl, hs, _⟩ := plainElem_string_inv Try.underlying9 hv
  simp only [Prod.mk.injEq] at hs
  exact ⟨s, hrun, by unfold vof; rw [hs.1]⟩

def prevOf (ks : List Qt.Str) (i : Nat) : ByteArray := if i = 0 then ⟨#[]⟩ else ⟨(ks.getD (i - 1) []).toArray⟩
theorem prevOf_pos {ks : List Qt.Str} {i : Nat} (h0 : 0 < i) (hi : i < ks.length) : (prevOf ks i).data.toList = ks[i - 1]'(by omega) := by
  unfold prevOf
  rw [if_neg (by omega)]
  simp [List.getD, show i - 1 < ks.length by omega]

section
variable {H : Type} {D : DataW H} {ks : List Qt.Str} {s : ByteArray} {i p : Nat}
theorem in_lt (hasc : Qt.Asc ks) (hmem : ∀ x, x ∈ ks ↔ has D (.string x) = true) (hi : i < ks.length) (hat : Qt.At (vof D) ks s.data.toList i p hi) {j : Nat} (h1 : p ≤ j) (h2 : j < p + ks[i].length) :
    (0 < i ∧ Op.bytesLess (prevOf ks i).toList (s.extract p j).toList = false) ∨ has D (.string (s.extract p j).data.toList) = false := by
  have he : (s.extract p j).data.toList = ks[i].take (j - p) := by rw [ex]; exact hat.pre (j - p) (by omega)
  by_cases hin : ks[i].take (j - p) ∈ ks
  · obtain ⟨h0, hn⟩ := Qt.cand hasc hi (by omega) hin
    refine Or.inl ⟨h0, ?_⟩
    rw [bl, he, prevOf_pos h0 hi]
    simpa using hn
  · right
    rw [he]
    cases hh : has D (.string (ks[i].take (j - p))) with
    | false => rfl
    | true => exact absurd ((hmem _).2 hh) hin
theorem in_eq_key (hi : i < ks.length) (hat : Qt.At (vof D) ks s.data.toList i p hi) : (s.extract p (p + ks[i].length)).data.toList = ks[i] := by
  rw [ex, Nat.add_sub_cancel_left, hat.pre _ (Nat.le_refl _), List.take_length]
theorem in_eq_byte (hi : i < ks.length) (hat : Qt.At (vof D) ks s.data.toList i p hi) (h : p + ks[i].length < s.size) : s[p + ks[i].length] = 61 := by
  have h1 := by_get s _ h
  rw [hat.eqs] at h1
  exact (Option.some.inj h1).symm
theorem in_eq_less (hasc : Qt.Asc ks) (hi : i < ks.length) (hat : Qt.At (vof D) ks s.data.toList i p hi) (h0 : 0 < i) : Op.bytesLess (prevOf ks i).toList (s.extract p (p + ks[i].length)).toList = true := by
  rw [bl, in_eq_key hi hat, prevOf_pos h0 hi]
  simpa using Qt.asc_get hasc (by omega) hi (by omega : i - 1 < i)
theorem in_eq_val (hi : i < ks.length) (hat : Qt.At (vof D) ks s.data.toList i p hi) : (s.extract (p + ks[i].length + 1) (p + ks[i].length + 1 + (vof D ks[i]).length)).toList = vof D ks[i] := by
  rw [tl, ex, Nat.add_sub_cancel_left]
  exact hat.val
theorem len_le (hi : i < ks.length) (hat : Qt.At (vof D) ks s.data.toList i p hi) : p + ks[i].length + 1 + (vof D ks[i]).length ≤ s.size := by
  have := hat.le
  rwa [Array.length_toList] at this
end
end Go.Proofs.Qxb6605527a
