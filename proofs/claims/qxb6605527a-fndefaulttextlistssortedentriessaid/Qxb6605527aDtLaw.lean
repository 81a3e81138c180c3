import Derived.Test.Qxb6605527aBytes
import Derived.Test.Qxb6605527aParse
import Derived.Laws.Cover3
import Derived.RegionTactic
import Derived.ChangeAlike
namespace Go.Proofs.Qxb6605527a
open Go.RowKit Go.Maps Go.Sort

theorem nilSlice (b o n c : Nat) (w : World) : (binOp .neq 29 (.slice (some ⟨b, o, none⟩) n c) (.slice none 0 0)).run Try.prog w = .ok (.bool true) w := by
  rw [run_neq_slice_nil w 29 9 _ n c Try.underlying29]; rfl
theorem run_mkmap (n : Nat) (w : World) : (Instr.makeMap 31 (some (.int .i64 n))).run Try.prog w = .ok (.map (some w.heap.size)) (w.alloc (.map #[] 0)) := by
  simp [Instr.makeMap, run_underlying Try.underlying31, asInt, asIntOf, Result.andThen]

theorem below_drewN {B : Nat} {a w : World} (h : Below B a w) (n : Nat) : Below B a (w.drewN n) := ⟨h.os, h.tape, h.output, h.size, h.block⟩
def Bnd (D : DataW Unit) : Prop := ∀ x, has D (.string x) = true → x.length ≤ 1048576 ∧ (vof D x).length ≤ 1048576
theorem bnd_nil : Bnd (.map []) := fun x hx => by cases hx
theorem bnd_put {D : DataW Unit} (hD : Bnd D) (hm : IsMap D) {k v : Qt.Str} (hk : k.length ≤ 1048576) (hv : v.length ≤ 1048576) : Bnd (D.put (.string k) (.lit (.string v))) := by
  intro x hx
  by_cases h : x = k
  · subst h
    refine ⟨hk, ?_⟩
    unfold vof
    rw [atKey_put_same hm (by simp [WideAt.IsKeyLit])]
    exact hv
  · have hne : Lit.string x ≠ Lit.string k := fun e => h (by simpa using e)
    rw [has_put_other hne] at hx
    have := hD x hx
    unfold vof at this ⊢
    rw [atKey_put_other hne]
    exact this

theorem ext_le (s : ByteArray) (p j : Nat) (h : s.size ≤ 8589942784) : (s.extract p j).size ≤ maxLen := by
  rw [ByteArray.size_extract]; unfold maxLen; omega

theorem byte61 {H : Type} {D : DataW H} {ks : List Qt.Str} {s : ByteArray} {i p j : Nat} (hi : i < ks.length) (hat : Qt.At (vof D) ks s.data.toList i p hi) (hj : j = p + ks[i].length) (h : j < s.size) : s[j] = 61 := by
  subst hj; exact in_eq_byte hi hat h
theorem byte44 {H : Type} {D : DataW H} {ks : List Qt.Str} {s : ByteArray} {i p e C : Nat} (hi : i < ks.length) (hat : Qt.At (vof D) ks s.data.toList i p hi) (he : e = p + ks[i].length + 1 + (vof D ks[i]).length) (h : e < s.size) (hm : i + 1 < C) (hC : C = ks.length) : s[e] = 44 := by
  subst he
  have h1 := by_get s _ h
  rw [(hat.more (hC ▸ hm)).2.1] at h1
  exact (Option.some.inj h1).symm
theorem prev_next {ks : List Qt.Str} {i : Nat} (hi : i < ks.length) {kk : ByteArray} (hk : kk.data.toList = ks[i]) : prevOf ks (i + 1) = kk := by
  apply Go.WideShapes.bytes_inj
  rw [hk]
  unfold prevOf
  rw [if_neg (by omega)]
  simp [List.getD, hi]

set_option maxRecDepth 100000 in
set_option maxHeartbeats 1000000 in
theorem law_any (b0 o0 n c0 b1 o1 c1 : Nat) (x y : Nat → ByteArray) (w : World)
    (hn : n ≤ 4096) (hb0 : b0 < w.heap.size) (hb1 : b1 < w.heap.size)
    (h0 : ∀ j, j < n → w.cell? ⟨b0, o0 + j, none⟩ = some (.string (x j))) (h1 : ∀ j, j < n → w.cell? ⟨b1, o1 + j, none⟩ = some (.string (y j)))
    (z0 : ∀ j, j < n → (x j).size ≤ maxLen) (z1 : ∀ j, j < n → (y j).size ≤ maxLen) :
    Calls Try.prog 6 #[.slice (some ⟨b0, o0, none⟩) n c0, .slice (some ⟨b1, o1, none⟩) n c1] w fun e w' => e = .returned (.bool true) ∧ Below w.heap.size w w' := by
  have hzz := fun w' (hb : Below w.heap.size w w') => zz_any (some ⟨b0, o0, none⟩) (some ⟨b1, o1, none⟩) b0 o0 n c0 b1 o1 n c1 x y w' (by unfold maxLen; omega) (by unfold maxLen; omega) (fun _ => rfl) (fun _ => rfl)
    (fun j hj => (hb.cell hb0).trans (h0 j hj)) (fun j hj => (hb.cell hb1).trans (h1 j hj)) z0 z1
  have hz := hzz w (Below.refl _ _)
  clear hzz
  have H0 : Hid _ := h0
  have H1 : Hid _ := h1
  have Z0 : Hid _ := z0
  have Z1 : Hid _ := z1
  clear h0 h1 z0 z1
  have hn' : ¬ ((4096 : Int) < n) := by omega
  go_enter Try.func6, Try.ntmps6
  go_wp2_with fail
  go_at_call 15
  refine hz.mono ?_
  rintro e w' ⟨⟨b, rfl⟩, rfl⟩
  clear hz
  cases b with
  | false =>
    go_wp2
    go_ret
    exact ⟨rfl, Below.refl _ _⟩
  | true =>
  go_wp2
  go_loopw [5, 6] (fun t i wr => ∃ (k : Nat) (T : Int), k ≤ n ∧ 0 ≤ T ∧ T ≤ 1048576 ∧ i = .int .i64 k ∧ t = .int .i64 T ∧ (∀ j, j < k → (x j).size ≤ 1048576 ∧ (y j).size ≤ 1048576) ∧ Below w.heap.size w wr) (fun _ i _ => n - (intOf i).toNat)
  case atStart => exact ⟨0, 0, Nat.zero_le _, by omega, by omega, rfl, rfl, fun j hj => absurd hj (by omega), Below.refl _ _⟩
  case round =>
    obtain ⟨k, T, hk, hT0, hT1, rfl, rfl, hsz, hnx⟩ := hrel
    have HS : Hid _ := hsz
    clear hsz
    by_cases hlt : k < n
    · have hc0 : wr.cell? ⟨b0, o0 + k, none⟩ = some (.string (x k)) := (hnx.cell hb0).trans (H0.out k hlt)
      have hc1 : wr.cell? ⟨b1, o1 + k, none⟩ = some (.string (y k)) := (hnx.cell hb1).trans (H1.out k hlt)
      obtain ⟨s, hs⟩ : ∃ s, s = x k := ⟨_, rfl⟩
      obtain ⟨t, ht⟩ : ∃ t, t = y k := ⟨_, rfl⟩
      have HX : Hid _ := hs
      have HY : Hid _ := ht
      have hzs : s.size ≤ maxLen := hs ▸ Z0.out k hlt
      have hzt : t.size ≤ maxLen := ht ▸ Z1.out k hlt
      unfold maxLen at hzs hzt
      rw [← hs] at hc0
      rw [← ht] at hc1
      clear hs ht
      by_cases g1 : (1048576 : Int) < s.size
      · go_wp2
        go_ret
        exact ⟨rfl, hnx⟩
      by_cases g2 : (1048576 : Int) < t.size
      · go_wp2
        go_ret
        exact ⟨rfl, hnx⟩
      clear hzs hzt
      by_cases g3 : (1048576 : Int) < T + (s.size + t.size + 16)
      · go_wp2_with (go_quiet (fail))
        go_ret
        exact ⟨rfl, below_drewN hnx _⟩
      go_wp2_with (go_quiet (fail))
      go_roundw
      case rel =>
        refine ⟨k + 1, T + (s.size + t.size + 16), by omega, by omega, by omega, by go_num, by go_num, ?_, below_drewN hnx _⟩
        intro j hj
        by_cases hjk : j = k
        · subst hjk; rw [← HX.out, ← HY.out]; omega
        · exact HS.out j (by omega)
      case measure => simp [intOf]; omega
    · obtain rfl : k = n := by omega
      obtain ⟨wA, hA⟩ : ∃ wA, wA = wr := ⟨_, rfl⟩
      subst hA
      have hmm := run_mkmap k
      have hns := nilSlice b0 o0 k c0
      go_wp2
      go_loopw [8] (fun i w2 => ∃ (k2 : Nat) (D : DataW Unit), k2 ≤ k ∧ i = .int .i64 k2 ∧ w2.ownsMap Try.prog 9 (plainElem Try.prog 9) wA.heap.size k2 D ∧ Bnd D ∧ Below w.heap.size w w2) (fun i _ => k - (intOf i).toNat)
      case atStart => exact ⟨0, .map [], Nat.zero_le _, rfl, World.ownsMap_made _ _ _ _, bnd_nil, hnx.alloc hnx.size _⟩
      case round =>
        obtain ⟨k2, D, hk2, rfl, hown, hD, hnx2⟩ := hrel
        by_cases hlt2 : k2 < k
        · have hc0 : wr.cell? ⟨b0, o0 + k2, none⟩ = some (.string (x k2)) := (hnx2.cell hb0).trans (H0.out k2 hlt2)
          have hc1 : wr.cell? ⟨b1, o1 + k2, none⟩ = some (.string (y k2)) := (hnx2.cell hb1).trans (H1.out k2 hlt2)
          have hss := HS.out k2 hlt2
          obtain ⟨s, hs⟩ : ∃ s, s = x k2 := ⟨_, rfl⟩
          obtain ⟨t, ht⟩ : ∃ t, t = y k2 := ⟨_, rfl⟩
          rw [← hs] at hc0 hss
          rw [← ht] at hc1 hss
          clear hs ht
          have hkey : keyOf Try.prog 9 (.string s) = some (.string s.data.toList) := WideMaps.keyOf_string_mk Try.underlying9 (by unfold maxLen; omega)
          obtain ⟨w3, hrun, hown3, hg3⟩ := hown.drew.update law9 Try.underlying31 (by unfold maxLen; omega) hkey (plainElem_string (H := Unit) (P := Try.prog) Try.underlying9 (s := t) (by unfold maxLen; omega))
          have hD3 := bnd_put hD (hown.isMap) (k := s.data.toList) (v := t.data.toList) hss.1 hss.2
          have hB3 : Below w.heap.size w w3 := hnx2.drew.grown hg3 hnx2.size (fun j hj => by cases hj; exact hnx.size)
          clear hown hD hnx2 hg3 hss hkey
          go_wp2
          go_region
          go_wp2
          go_roundw
          case rel => exact ⟨k2 + 1, _, by omega, by go_num, hown3, hD3, hB3⟩
          case measure => simp [intOf]; omega
        · obtain ⟨wB, hwB⟩ : ∃ wB, wB = wr := ⟨_, rfl⟩
          subst hwB
          have hc16 := dt16_any wA.heap.size k2 D wB hown (by have := hown.size_le; omega) hD
          go_wp2_with fail
          go_at_call 16
          refine hc16.mono ?_
          rintro e w4 ⟨⟨ks, hasc, hmem, hlen, rfl⟩, hB4⟩
          have hown4 : w4.ownsMap Try.prog 9 (plainElem Try.prog 9) wA.heap.size k2 D := map_below hown (hB4.block _ hown.lt)
          have hB : Below w.heap.size w w4 := hnx2.trans (hB4.mono hnx2.size)
          have hln : ∀ ty, (Builtin.len_ #[31] ty #[.map (some wA.heap.size)]).run Try.prog w4 = .ok (.int .i64 (ks.length : Nat)) w4 := fun ty => by rw [hlen]; exact hown4.len Try.underlying31 ty
          have hC4 : ks.length ≤ 4096 := by rw [hlen]; have := hown.size_le; omega
          have hjl := Qt.jn_len (vof D) 1048576 ks (fun x hx => hD x ((hmem x).1 hx))
          obtain ⟨s, hs⟩ : ∃ s : ByteArray, s = ⟨(Qt.jn (vof D) ks).toArray⟩ := ⟨_, rfl⟩
          obtain ⟨C, hC⟩ : ∃ C, C = ks.length := ⟨_, rfl⟩
          rw [← hC] at hln hC4 hjl
          rw [← hs, ← hC]
          obtain ⟨m, hm⟩ : ∃ m, m = wA.heap.size := ⟨_, rfl⟩
          rw [← hm] at hown4 hln ⊢
          have HA : Hid _ := hasc
          have HM : Hid _ := hmem
          have HC : Hid _ := hC
          have HSS : Hid _ := hs
          have HDD : Hid _ := hD
          have HSZ : Hid (s.size ≤ 8589942784) := by
            have e1 : s.size = (Qt.jn (vof D) ks).length := by rw [hs]; simp [ByteArray.size]
            have e2 : C * (2 * 1048576 + 2) ≤ 4096 * (2 * 1048576 + 2) := Nat.mul_le_mul_right _ hC4
            show s.size ≤ 8589942784
            rw [e1]; omega
          clear hc16 hown hnx2 hnx hns hmm hasc hmem hlen hB4 hs hC hm hD hjl hb0 hb1 hk2 hn hlt hlt2 hT0 hT1 hk hn'
          by_cases hz : C = 0
          · subst hz
            have hs0 : s = ⟨#[]⟩ := by
              have h1 : ks = [] := List.length_eq_zero_iff.1 HC.out.symm
              rw [HSS.out, h1]; rfl
            subst hs0
            go_wp2
            go_ret
            exact ⟨rfl, hB⟩
          have hd : decide (0 < C) = true := by simp; omega
          rw [hd]
          have hC0 : (0 : Int) < C := by omega
          have hC1 : 0 < C := by omega
          have hCz : ((C : Int) == 0) = false := by simp; omega
          have hCz2 : ¬ (C = 0) := by omega
          clear hd hz
          go_wp2
          go_loop [11, 12, 13, 14] (fun c pv hv ps => ∃ i p : Nat, i < C ∧ p ≤ s.size ∧ s.data.toList.drop p = Qt.jn (vof D) (ks.drop i) ∧ c = .int .i64 i ∧ pv = .string (prevOf ks i) ∧ hv = .bool (decide (0 < i)) ∧ ps = .int .i64 p) (fun c _ _ _ => C - (intOf c).toNat)
          case atStart => exact ⟨0, 0, hC1, Nat.zero_le _, by rw [HSS.out]; simp, rfl, rfl, rfl, rfl⟩
          case round =>
            obtain ⟨i, p, hi, hp, hdr, rfl, rfl, rfl, rfl⟩ := hrel
            have hi' : i < ks.length := by rw [← HC.out]; exact hi
            have hat := Qt.at_of (vof D) ks s.data.toList i p hi' (by rw [Array.length_toList]; exact hp) hdr
            have hle := len_le hi' hat
            obtain ⟨pv, hpv⟩ : ∃ pv, pv = prevOf ks i := ⟨_, rfl⟩
            obtain ⟨hv, hhv⟩ : ∃ hv, hv = decide (0 < i) := ⟨_, rfl⟩
            obtain ⟨nK, hnK⟩ : ∃ nK, nK = ks[i].length := ⟨_, rfl⟩
            obtain ⟨nV, hnV⟩ : ∃ nV, nV = (vof D ks[i]).length := ⟨_, rfl⟩
            rw [← hpv, ← hhv]
            rw [← hnK, ← hnV] at hle
            have HP : Hid _ := hpv
            have HH : Hid _ := hhv
            have HAT : Hid _ := hat
            have HNK : Hid _ := hnK
            have HNV : Hid _ := hnV
            have HLE : Hid _ := hle
            clear hpv hhv hdr hat hnK hnV hle
            go_wp2
            go_loop [12, 13, 15, 16] (fun pv' hv' en j => ∃ j' : Nat, p ≤ j' ∧ j' ≤ p + nK ∧ pv' = .string pv ∧ hv' = .bool hv ∧ en = .int .i64 (-1) ∧ j = .int .i64 j') (fun _ _ _ j => s.size - (intOf j).toNat)
            case atStart => exact ⟨p, Nat.le_refl _, Nat.le_add_right _ _, rfl, rfl, rfl, rfl⟩
            case round =>
              obtain ⟨j, hj1, hj4, rfl, rfl, rfl, rfl⟩ := hrel
              have hj2 : j < s.size := by have := HLE.out; omega
              have hj3 : j ≤ s.size := by omega
              have hjb : (j : Int) < 8589942785 := by have := HSZ.out; omega
              have hkz : (s.extract p j).size ≤ maxLen := ext_le s p j HSZ.out
              obtain ⟨v, hlk, hvv⟩ := look9ok hown4 (s.extract p j) hkz
              have HVV : Hid _ := hvv
              clear hvv hkz
              by_cases hlt : j < p + nK
              · have hcases := in_lt HA.out HM.out hi' HAT.out hj1 (by rw [← HNK.out]; exact hlt)
                rw [← HP.out] at hcases
                by_cases hc1 : ((s[j].toNat : Int) != 61) = true
                · clear hcases hlk
                  go_wp2
                  go_round
                  case rel => exact ⟨j + 1, by omega, by omega, rfl, rfl, rfl, by go_num⟩
                  case measure => simp [intOf]; omega
                have hc2 : ((s[j].toNat : Int) != 61) = false := by simpa using hc1
                clear hc1
                obtain ⟨kk, hkk⟩ : ∃ kk, s.extract p j = kk := ⟨_, rfl⟩
                rw [hkk] at hcases hlk
                by_cases hg : hv = true ∧ Op.bytesLess pv.toList kk.toList = false
                · obtain ⟨hg1, hg2⟩ := hg
                  clear hcases hlk
                  go_wp2
                  go_round
                  case rel => exact ⟨j + 1, by omega, by omega, rfl, by rw [hg1], rfl, by go_num⟩
                  case measure => simp [intOf]; omega
                have hhas : has D (.string kk.data.toList) = false := by
                  rcases hcases with ⟨h1, h2⟩ | h3
                  · exact absurd ⟨by rw [HH.out]; simpa using h1, h2⟩ hg
                  · exact h3
                rw [hhas] at hlk
                clear hcases hhas
                cases hv with
                | false =>
                  clear hg
                  go_wp2
                  go_round
                  case rel => exact ⟨j + 1, by omega, by omega, rfl, rfl, rfl, by go_num⟩
                  case measure => simp [intOf]; omega
                | true =>
                  have hg2 : Op.bytesLess pv.toList kk.toList = true := by
                    cases hb : Op.bytesLess pv.toList kk.toList with
                    | true => rfl
                    | false => exact absurd ⟨rfl, hb⟩ hg
                  clear hg
                  go_wp2
                  go_round
                  case rel => exact ⟨j + 1, by omega, by omega, rfl, rfl, rfl, by go_num⟩
                  case measure => simp [intOf]; omega
              · have hje : j = p + nK := by omega
                have hkey : (s.extract p j).data.toList = ks[i] := by rw [hje, HNK.out]; exact in_eq_key hi' HAT.out
                have hc2 : ((s[j].toNat : Int) != 61) = false := by rw [byte61 hi' HAT.out (by rw [hje, HNK.out]) hj2]; rfl
                have hless : hv = true → Op.bytesLess pv.toList (s.extract p j).toList = true := fun h => by
                  rw [HP.out, hje, HNK.out]
                  exact in_eq_less HA.out hi' HAT.out (by rw [HH.out] at h; simpa using h)
                have hv3 := HVV.out
                rw [hkey] at hlk hv3
                rw [(HM.out _).1 (List.getElem_mem hi')] at hlk
                have hvz : v.size = nV := by rw [HNV.out, ← hv3, Array.length_toList]; rfl
                obtain ⟨e, he⟩ : ∃ e, e = j + 1 + nV := ⟨_, rfl⟩
                have hei : (j : Int) + 1 + v.size = e := by omega
                have hel2 : e ≤ s.size := by have := HLE.out; omega
                have hel3 : ¬ (s.size < e) := by omega
                have hn1 : ¬ ((e : Int) < 0) := by omega
                have hn2 : decide ((e : Int) < 0) = false := by simp
                have heb : (e : Int) < 8589942785 := by have := HSZ.out; omega
                have hsl2 : ∀ w, (Instr.slice 9 (.string s) (some (.int .i64 ((j : Int) + 1))) (some (.int .i64 (e : Int))) none).run Try.prog w = .ok (.string v) w := fun w => by
                  rw [run_slice_string w 9 s _ _ _ _ Try.underlying9 (by omega) (by omega) (by omega)]
                  have e1 : ((j : Int) + 1).toNat = j + 1 := by omega
                  have e2 : ((e : Int)).toNat = e := by omega
                  rw [e1, e2]
                  refine congrArg (fun x => Result.ok (Value.string x) w) (Go.WideShapes.bytes_inj ?_)
                  rw [hv3, ← tl, he, hje, HNK.out, HNV.out]
                  exact in_eq_val hi' HAT.out
                have HMORE : Hid (e < s.size → i + 1 < C) := fun h => by
                  rcases Nat.lt_or_ge (i + 1) ks.length with h1 | h1
                  · rw [HC.out]; exact h1
                  · have := HAT.out.last (by omega)
                    rw [Array.length_toList] at this
                    have h2 : p + ks[i].length + 1 + (vof D ks[i]).length = s.size := this
                    rw [← HNK.out, ← HNV.out] at h2
                    omega
                have HLAST : Hid (e = s.size → i + 1 = C) := fun h => by
                  rcases Nat.lt_or_ge (i + 1) ks.length with h1 | h1
                  · have h3 := (HAT.out.more h1).1
                    rw [Array.length_toList] at h3
                    have h2 : p + ks[i].length + 1 + (vof D ks[i]).length < s.size := h3
                    rw [← HNK.out, ← HNV.out] at h2
                    omega
                  · rw [HC.out]; omega
                obtain ⟨kk, hkk⟩ : ∃ kk, s.extract p j = kk := ⟨_, rfl⟩
                rw [hkk] at hkey hless hlk
                have HKD : Hid _ := hkey
                have HJE : Hid _ := hje
                have HE : Hid _ := he
                clear hkey hje he hv3 hvz hlt
                cases hv with
                | false =>
                  clear hless
                  by_cases hel : e < s.size
                  · have hc44 : ((s[e].toNat : Int) != 44) = false := by rw [byte44 hi' HAT.out (by rw [HE.out, HJE.out, HNK.out, HNV.out]) hel (HMORE.out hel) HC.out]; rfl
                    have hne : ((e : Int) == s.size) = false := by simp; omega
                    go_wp2
                    go_round
                    case rel =>
                      refine ⟨i + 1, e + 1, HMORE.out hel, by omega, ?_, by go_num, ?_, ?_, by go_num⟩
                      · rw [HE.out, HJE.out, HNK.out, HNV.out]; exact (HAT.out.more (by have := HMORE.out hel; rw [HC.out] at this; exact this)).2.2
                      · rw [prev_next hi' HKD.out]
                      · simp
                    case measure => simp [intOf]; omega
                  · have heq : e = s.size := by omega
                    have hne : ((e : Int) == s.size) = true := by simp; omega
                    have hcnt : ((i : Int) + 1 == C) = true := by have := HLAST.out heq; simp; omega
                    clear heq
                    go_wp2
                    go_ret
                    exact ⟨rfl, hB⟩
                | true =>
                  have hl2 := hless rfl
                  clear hless
                  by_cases hel : e < s.size
                  · have hc44 : ((s[e].toNat : Int) != 44) = false := by rw [byte44 hi' HAT.out (by rw [HE.out, HJE.out, HNK.out, HNV.out]) hel (HMORE.out hel) HC.out]; rfl
                    have hne : ((e : Int) == s.size) = false := by simp; omega
                    go_wp2
                    go_round
                    case rel =>
                      refine ⟨i + 1, e + 1, HMORE.out hel, by omega, ?_, by go_num, ?_, ?_, by go_num⟩
                      · rw [HE.out, HJE.out, HNK.out, HNV.out]; exact (HAT.out.more (by have := HMORE.out hel; rw [HC.out] at this; exact this)).2.2
                      · rw [prev_next hi' HKD.out]
                      · simp
                    case measure => simp [intOf]; omega
                  · have heq : e = s.size := by omega
                    have hne : ((e : Int) == s.size) = true := by simp; omega
                    have hcnt : ((i : Int) + 1 == C) = true := by have := HLAST.out heq; simp; omega
                    clear heq
                    go_wp2
                    go_ret
                    exact ⟨rfl, hB⟩
end Go.Proofs.Qxb6605527a
