import Derived.Test.Qxb6605527aRows
import Derived.Test.Qxb6605527aText
import Derived.Test.Qxb6605527aShelf
import Derived.WalkKit
import Derived.OwnWalk
import Derived.Sort.KeysCollected
import Derived.Sort.OwnSorted
import Derived.Maps.AppendAt
import Derived.Maps.OwnOps
import Derived.Maps.OwnSet
import Derived.Maps.RangeWalk
import Derived.Maps.StringElems
import Derived.Deep.OwnRows
namespace Go.Proofs.Qxb6605527a
open Go.RowKit Go.Maps Go.Sort

theorem law9 : Keyed Try.prog 9 := string_keyed Try.underlying9
theorem info9 : (Try.prog.info? 9).map (fun i => (i.zero, i.size, i.bytes)) = some (some (.string ⟨#[]⟩), 1, 16) := by kernel_rfl
theorem zero9 (w : World) : (zeroValue 9).run Try.prog w = .ok (.string ⟨#[]⟩) w := by kernel_rfl

/-- what the map holds at a key -/
def vof {H : Type} (D : DataW H) (x : Qt.Str) : Qt.Str := match D.atKey (.string x) (.lit (.string [])) with | .lit (.string v) => v | _ => []

def DtPost {H : Type} (D : DataW H) (e : Ending) : Prop := ∃ ks : List Qt.Str, Qt.Asc ks ∧ (∀ x, x ∈ ks ↔ has D (.string x) = true) ∧ ks.length = Maps.size D ∧
  e = .returned (.tuple #[.string ⟨(Qt.jn (vof D) ks).toArray⟩, .bool (decide (0 < ks.length))])

def cellF {H : Type} (D : DataW H) (ts : List Qt.Str) (k j : Nat) : Value := if j < k then encStr (Qt.entry (vof D) (ts.getD j [])) else .string ⟨#[]⟩

theorem perm_size {H : Type} {D : DataW H} {w : World} {b n : Nat} (hown : w.ownsMap Try.prog 9 (plainElem Try.prog 9) b n D) {ss : List (List UInt8)} (h : ss.Perm (strKeys D)) : ss.length = Maps.size D := by
  obtain ⟨es, rfl, _⟩ := hown.keysOf
  rw [h.length_eq]; simp [strKeys, Maps.size]

theorem map_below {H : Type} {P : Program} {k : TypeId} {R : Value → Option (DataW H × List MemPlace)} {w w' : World} {b n : Nat} {D : DataW H} (h : w.ownsMap P k R b n D) (hb : w'.heap[b]? = w.heap[b]?) : w'.ownsMap P k R b n D := by
  obtain ⟨es, clock, h1, h2⟩ := h
  exact ⟨es, clock, hb.trans h1, h2⟩

theorem look9 {H : Type} {D : DataW H} {w : World} {b n : Nat} (hown : w.ownsMap Try.prog 9 (plainElem Try.prog 9) b n D) (X : Qt.Str) (hX : X.length ≤ maxLen) :
    ∃ v : ByteArray, (Instr.lookup 31 (.map (some b)) (encStr X) false).run Try.prog w = .ok (.string v) w ∧ v.data.toList = vof D X := by
  have hkey : keyOf Try.prog 9 (encStr X) = some (.string X) := by
    have := WideMaps.keyOf_string_mk (P := Try.prog) (k := 9) Try.underlying9 (s := ⟨X.toArray⟩) (by simpa [ByteArray.size] using hX)
    simpa using this
  obtain ⟨v, ps, hrun, hv⟩ := hown.lookup law9 Try.underlying31 (zero9 _) (zd := .lit (.string [])) (zp := []) (by simpa using plainElem_string (H := H) (P := Try.prog) Try.underlying9 (s := ⟨#[]⟩) (by decide)) hkey
  obtain ⟨s, rfl, hs, _⟩ := plainElem_string_inv Try.underlying9 hv
  simp only [Prod.mk.injEq] at hs
  exact ⟨s, hrun, by unfold vof; rw [hs.1]⟩

theorem cellF_step {H : Type} (D : DataW H) (ts : List Qt.Str) {k : Nat} {X : Qt.Str} {v : ByteArray} (hX : X = ts.getD k []) (hv : v.data.toList = vof D X) (j : Nat) :
    (if j = k then Value.string ((⟨X.toArray⟩ : ByteArray) ++ (⟨#[61]⟩ : ByteArray) ++ v) else cellF D ts k j) = cellF D ts (k + 1) j := by
  unfold cellF
  by_cases h : j = k
  · subst h
    rw [if_pos rfl, if_pos (Nat.lt_succ_self _), ← hX]
    unfold Qt.entry
    rw [← hv]
    show Value.string _ = Value.string _
    congr 1
    ext1
    simp [ByteArray.data_append]
  · rw [if_neg h]
    by_cases h2 : j < k
    · rw [if_pos h2, if_pos (by omega)]
    · rw [if_neg h2, if_neg (by omega)]

theorem join_jn (f : Qt.Str → Qt.Str) (ks : List Qt.Str) : Lib.join (ks.map (Qt.entry f)) [44] = Qt.jn f ks := by
  cases ks with
  | nil => rfl
  | cons k r =>
    rw [List.map_cons, Lib.join_cons]
    induction r generalizing k with
    | nil => simp [Lib.joinTail, Qt.jn]
    | cons k' r ih =>
      rw [Qt.jn, ← ih k']
      simp [Lib.joinTail]

theorem join_at {H : Type} (D : DataW H) (ts : List Qt.Str) (L B : Nat) (w : World) (hl : ts.length = L) (hR : w.rowIs B 9 L (cellF D ts L)) (hL : L ≤ 4096)
    (hB : ∀ x ∈ ts, x.length ≤ 1048576 ∧ (vof D x).length ≤ 1048576) :
    Calls Try.prog 24 #[.slice (some ⟨B, 0, none⟩) L L, .string ⟨#[44]⟩] w fun e w' => e = .returned (.string ⟨(Qt.jn (vof D) ts).toArray⟩) ∧ Below w.heap.size w w' := by
  have e1 : (ts.map fun x => (⟨(Qt.entry (vof D) x).toArray⟩ : ByteArray)).map (·.data.toList) = ts.map (Qt.entry (vof D)) := by simp
  have e2 : Lib.join ((ts.map fun x => (⟨(Qt.entry (vof D) x).toArray⟩ : ByteArray)).map (·.data.toList)) (⟨#[44]⟩ : ByteArray).data.toList = Qt.jn (vof D) ts := by rw [e1]; exact join_jn _ _
  have hlen := Qt.jn_len (vof D) 1048576 ts hB
  have h := Try.strings_Join B 0 L (ts.map fun x => (⟨(Qt.entry (vof D) x).toArray⟩ : ByteArray)) ⟨#[44]⟩ w
    (fun j x hx => by
      rw [List.getElem?_map, Option.map_eq_some_iff] at hx
      obtain ⟨y, hy, rfl⟩ := hx
      have hj : j < L := by rw [← hl]; exact (List.getElem?_eq_some_iff.1 hy).1
      rw [Nat.zero_add, hR.cell hj]
      simp [cellF, hj, List.getD, hy, encStr])
    hR.lt (by simp; omega) (by simp; omega)
    (by
      rw [e2]
      rw [hl] at hlen
      have : L * (2 * 1048576 + 2) ≤ 4096 * (2 * 1048576 + 2) := Nat.mul_le_mul_right _ hL
      omega)
  rw [e2, List.length_map, hl] at h
  exact h

set_option maxRecDepth 100000 in
set_option maxHeartbeats 1000000 in
theorem dt_any {H : Type} (q b n : Nat) (D : DataW H) (w : World) (hown : w.ownsMap Try.prog 9 (plainElem Try.prog 9) b n D) (hn : Maps.size D ≤ 4096)
    (hq : w.cell? ⟨q, 1, none⟩ = some (.map (some b))) (hql : q < w.heap.size)
    (hB : ∀ x, has D (.string x) = true → x.length ≤ 1048576 ∧ (vof D x).length ≤ 1048576) :
    Calls Try.prog 19 #[.pointer (some ⟨q, 0, none⟩)] w fun e w' => DtPost D e ∧ Below w.heap.size w w' := by
  obtain ⟨i0, hi, hz0, hz1, hz2⟩ := info_parts info9
  have hbl := hown.lt
  have HB : Hid _ := hB
  clear hB
  go_enter Try.func19, Try.ntmps19
  go_wp2_with (first
    | (at_len; refine wpList_len_own _ rfl _ 31 rfl 9 9 Try.underlying31 _ b n _ rfl hown ?_)
    | (at_make; refine wpList_make_own _ rfl _ _ 29 rfl w.heap.size 9 i0 (.string ⟨#[]⟩) 1 Try.underlying29 hi hz0 hz1 _ _ _ (Maps.size D) rfl rfl rfl (by rw [hz2]; omega) (by unfold maxLen; omega) (Nat.le_refl _) ?_; intro w1 hrow1 hg1; have hq1 := hg1.cell hq (by simp))
    | (at_range; refine wpList_range_own _ rfl _ 31 rfl 9 9 law9 Try.underlying31 _ b n _ rfl (hown.kept hg1 (by simp)) ?_; intro w0 hrg0 hg0 hs0)
    | go_in)
  go_frame
  go_loopw [4] (fun v wr => ∃ (left : Lit → Bool) (cnt : Nat) (ss : List (List UInt8)), wr.ranges Try.prog 9 (plainElem Try.prog 9) b w1.heap.size n D left cnt ∧ ss.length + cnt ≤ Maps.size D ∧
      wr.ownsRow w.heap.size 9 1 v ss.length (ss.map encStr) ∧ v ≠ .slice none 0 0 ∧ Collected D left ss ∧ Below w.heap.size w wr)
    (fun _ wr => wr.rangeLeft b w1.heap.size)
  case atStart =>
    exact ⟨_, _, [], hrg0, by simp, hrow1.kept hg0 (Or.inr (by simp [Value.ownBlock])), by simp, Collected.start D,
      ((Below.refl _ _).grown hg1 (Nat.le_refl _) (fun j hj => by cases hj)).grown hg0 hg1.size (fun j hj => by cases hj)⟩
  case round =>
    obtain ⟨left, cnt, ss, hrg, hcs, hrow, hnn, hC, hnx⟩ := hrel
    go_wp2_with (first
      | (at_next; refine wpList_next_ranges _ rfl _ rfl 9 law9 (plainElem Try.prog 9) encStr Value.string (fun key kl hk => by obtain ⟨x, hx, _⟩ := Maps.keyOf_str Try.underlying9 hk; exact ⟨x, hx⟩) (fun v y hv => by obtain ⟨c, rfl, _⟩ := plainElem_string_inv Try.underlying9 hv; exact ⟨c, rfl⟩) b w1.heap.size n _ _ _ rfl hrg ?_ ?_)
      | go_in)
    · -- NOTHING IS LEFT: the slice is sorted
      intro hc0 hl0
      rcases hrow.2 with ⟨hnil, _⟩ | ⟨g, cap, cur, rfl, hbase, hb, h1, h2, h3, h4⟩
      · exact absurd hnil hnn
      have hH : Holds encStr wr g 0 ss.toArray := holds_of_block hb (by simpa using h4)
      have hgl : g < wr.heap.size := (Array.getElem?_eq_some_iff.1 hb).1
      have hc := Try.slices_Sort_string g 0 cap ss wr hH hgl (by omega)
      go_wp2_with fail
      go_at_call 23
      refine hc.mono ?_
      rintro e W ⟨rfl, nn, os, hW⟩
      have hP := hC.perm hown law9 Try.underlying9 hl0
      have hmem : ∀ x, x ∈ ss ↔ has D (.string x) = true := fun x => by rw [hC.2 x, hl0]; simp
      have hmapr := hrg.owns
      have hlenD : ss.length = Maps.size D := perm_size hown hP
      have hgS : wr.grownBy W (some g) := by rw [hW]; exact grownBy_sorted _
      obtain ⟨ts, hts⟩ : ∃ ts, ts = ss.mergeSort fun x y => decide (x ≤ y) := ⟨_, rfl⟩
      have htl : ts.length = ss.length := by rw [hts]; simp
      have hrowS : W.ownsRow w.heap.size 9 1 (.slice (some ⟨g, 0, none⟩) ss.length cap) ss.length (ts.map encStr) := by rw [hW, ← hts]; exact ownsRow_sorted htl hbase hb h1 h2 h3
      have hasc : Qt.Asc ts := by rw [hts]; exact Qt.asc_sort ss hC.1
      have hmemT : ∀ x, x ∈ ts ↔ has D (.string x) = true := fun x => by rw [hts, Qt.mem_sort]; exact hmem x
      have BW : Below w.heap.size w W := hnx.grown hgS hnx.size (fun j hj => by cases hj; exact hbase)
      have hmapW : W.ownsMap Try.prog 9 (plainElem Try.prog 9) b n D := hmapr.kept hgS (by simp; omega)
      have hgW : g < W.heap.size := by have := hgS.size; omega
      have hcS : ∀ j, j < ss.length → W.cell? ⟨g, j, none⟩ = some (encStr (ts.getD j [])) := fun j hj => by
        rw [hrowS.cellAt j (by omega)]; simp [List.getD, show j < ts.length by omega]
      obtain ⟨L, hL⟩ : ∃ L, L = ss.length := ⟨_, rfl⟩
      have hL2 : L ≤ 4096 := by omega
      rw [← hL] at htl hcS hlenD ⊢
      clear hW hts hrowS hgS hc hH hmem hP hC hl0 hc0 hrow hnn hcs hrg hb h1 h2 h3 h4 hmapr hnx hrow1 hrg0 hg0 hs0 hL hg1 hq1 hgl hbase
      have hmk := run_make_row' (P := Try.prog) 29 9 (.string ⟨#[]⟩) 16 Try.underlying29 info9 rfl .i64 .i64 L (by omega) (by omega)
      have HS : Hid _ := hcS
      have HT : Hid _ := hmemT
      have HL : Hid _ := htl
      have HD : Hid _ := hlenD
      clear hcS hmemT htl hlenD
      go_wp2
      go_loopw [35] (fun i w3 => ∃ k : Nat, k ≤ L ∧ i = .int .i64 k ∧ w3.rowIs W.heap.size 9 L (cellF D ts k) ∧ Below W.heap.size W w3) (fun i _ => L - (intOf i).toNat)
      case atStart => exact ⟨0, Nat.zero_le _, rfl, (World.rowIs_made _ _ _ _).congr (fun i _ => by simp [cellF]), (Below.refl _ _).alloc (Nat.le_refl _) _⟩
      case round =>
        obtain ⟨k, hk, rfl, hR, hnx⟩ := hrel
        have hq3 : wr.cell? ⟨q, 1, none⟩ = some (.map (some b)) := (hnx.cell (by have := BW.size; exact (by omega : q < W.heap.size))).trans ((BW.cell hql).trans hq)
        by_cases hlt : k < L
        · have hcx : wr.cell? ⟨g, k, none⟩ = some (encStr (ts.getD k [])) := (hnx.cell hgW).trans (HS.out k hlt)
          have hXm : ts.getD k [] ∈ ts := by
            have : k < ts.length := by rw [HL.out]; exact hlt
            simp [List.getD, this]
          have hXh := (HT.out _).1 hXm
          obtain ⟨hXl, hVl⟩ := HB.out _ hXh
          obtain ⟨X, hX⟩ : ∃ X, X = ts.getD k [] := ⟨_, rfl⟩
          have HX : Hid _ := hX
          rw [← hX] at hcx hXl hVl
          clear hX hXm hXh
          obtain ⟨v, hrun, hv⟩ := look9 (map_below hmapW (hnx.block b (by have := BW.size; omega))) X (by unfold maxLen; omega)
          have hvs : v.size ≤ 1048576 := by
            have h9 := congrArg List.length hv
            rw [← h9, Array.length_toList] at hVl
            exact hVl
          have HV : Hid _ := hv
          clear hv hVl
          have hbig : ¬ (9223372036854775807 < X.length + 1 + v.size) := by omega
          clear hvs hXl
          have hcv := hR.cell hlt
          have hfv := hR.frozen k
          go_wp2
          go_roundw
          case rel =>
            refine ⟨k + 1, by omega, by go_num, (hR.set k _).congr ?_, hnx.setCell (Nat.le_refl _) _⟩
            intro j hj
            exact cellF_step D ts HX.out HV.out j
          case measure => simp [intOf]; omega
        · obtain rfl : k = L := by omega
          have hJ := join_at D ts k W.heap.size wr (HL.out) hR (by omega) (fun x hx => HB.out x ((HT.out x).1 hx))
          obtain ⟨out, hout⟩ : ∃ out, out = Qt.jn (vof D) ts := ⟨_, rfl⟩
          rw [← hout] at hJ
          have HO : Hid _ := hout
          clear hout
          have hb0 : decide ((0 : Int) < k) = decide (0 < k) := by simp
          go_wp2_with (go_at_call 24; refine hJ.mono ?_; rintro e w' ⟨rfl, hjb⟩)
          go_ret2
          refine ⟨⟨ts, hasc, HT.out, HL.out.trans HD.out, ?_⟩, BW.trans ((hnx.mono ?_).trans (hjb.mono ?_))⟩
          · rw [HL.out, ← HO.out]
            rfl
          · exact BW.size
          · have := BW.size; have := hnx.size; omega
    · -- AN ENTRY HAS COME: its key goes to the slice's end
      intro x c kl yd yp w2 cnt2 hkey hlk hv hat hrg2 hlt hg2 hs2 hen
      obtain ⟨x', ex, rfl, _⟩ := Maps.keyOf_str Try.underlying9 hkey
      obtain rfl : x = x' := encStr_inj ex
      have hrow2 := hrow.kept hg2 (Or.inr (row_ne_iter hrow hrg).symm)
      clear hs2
      go_wp2_with (first
        | (at_builtin; refine wpList_append_own _ rfl _ _ 29 rfl w.heap.size 9 i0 (.string ⟨#[]⟩) 1 16 Try.underlying29 hi hz0 hz1 hz2 rfl (by decide) _ _ _ rfl (hrow2.alloc _) ⟨w2.heap.size, 0, none⟩ 1 1 [encStr x] rfl rfl (cell_one_new _ _ _) (by simp [Value.oneCell', encStr]) (by unfold maxLen at *; omega) (by omega) (by have := hnx.size; have := hg2.size; simp; omega) ?_; intro v' w3 hown' hg3 hnil3; go_frame)
        | go_in)
      have hrg3 := (hrg2.alloc _).kept hg3 (row_ne_low hrow2 hbl) (row_ne_iter hrow2 hrg2)
      go_roundw
      case rel =>
        refine ⟨_, cnt2, ss ++ [x], hrg3, by simp; omega, by simpa using hown', fun hv' => by have := (hnil3.1 hv').2; omega, hC.step hlk hat, ?_⟩
        exact ((hnx.grown hg2 hnx.size (fun j hj => by cases hj; exact hg1.size)).alloc (by have := hnx.size; have := hg2.size; omega) _).grown hg3 (by have := hnx.size; have := hg2.size; simp; omega) (fun j hj => (hrow2.lt j hj).1)
      case measure => rw [hrg3.left_eq, hrg.left_eq]; exact hlt

set_option maxRecDepth 100000 in
set_option maxHeartbeats 1000000 in
/-- of a nil map -/
theorem dt_nil (q : Nat) (w : World) (hq : w.cell? ⟨q, 1, none⟩ = some (.map none)) :
    Calls Try.prog 19 #[.pointer (some ⟨q, 0, none⟩)] w fun e w' => e = .returned (.tuple #[.string ⟨#[]⟩, .bool false]) ∧ Below w.heap.size w w' := by
  obtain ⟨i0, hi, hz0, hz1, hz2⟩ := info_parts info9
  go_enter Try.func19, Try.ntmps19
  go_wp2_with (first
    | (at_make; refine wpList_make_own _ rfl _ _ 29 rfl w.heap.size 9 i0 (.string ⟨#[]⟩) 1 Try.underlying29 hi hz0 hz1 _ _ _ 0 rfl rfl rfl (by omega) (Nat.zero_le _) (Nat.le_refl _) ?_; intro w1 hrow1 hg1
       have hq1 := hg1.cell hq (by simp)
       have hrg := run_range_nilMap (P := Try.prog) w1 31 9 9 Try.underlying31
       have hnx : ∀ ty, (Instr.next (.pointer (some ⟨w1.heap.size, 0, none⟩)) false ty).run Try.prog (w1.alloc (.mapIter none 0 #[] 0)) = _ := fun ty => run_next_nilMap _ ty 0 0 #[])
    | go_in)
  refine wp_loop_rounds 1 ?_
  rw [rounds_succ]
  have hrow2 := hrow1.alloc (.mapIter none 0 #[] 0)
  rcases hrow2.2 with ⟨hnil, _⟩ | ⟨g, cap, cur, hv, hbase, hb, h1, h2, h3, h4⟩
  · cases hnil
  cases hv
  have hH : Holds encStr (w1.alloc (.mapIter none 0 #[] 0)) w.heap.size 0 ([] : List (List UInt8)).toArray := fun j hj => absurd hj (by simp)
  have hc := Try.slices_Sort_string w.heap.size 0 0 [] _ hH (Array.getElem?_eq_some_iff.1 hb).1 (by decide)
  go_wp2_with fail
  go_at_call 23
  refine hc.mono ?_
  rintro e W ⟨rfl, nn, os, hW⟩
  have BW : Below w.heap.size w W := by
    rw [hW]
    exact (((Below.refl _ _).grown hg1 (Nat.le_refl _) (fun j hj => by cases hj)).alloc hg1.size _).grown (grownBy_sorted _) (by have := hg1.size; simp; omega) (fun j hj => by cases hj; exact Nat.le_refl _)
  clear hW hc hH hb h1 h2 h3 h4 hrow2 hnx hrg
  have hmk : ∀ (kl kc : IntKind) (w : World), (Instr.makeSlice 29 (.int kl 0) (.int kc 0)).run Try.prog w = .ok (.slice (some ⟨w.heap.size, 0, none⟩) 0 0) (w.alloc (.cells (madeCells #[.string ⟨#[]⟩] 0) 9)) :=
    fun kl kc => run_make_row' (P := Try.prog) 29 9 (.string ⟨#[]⟩) 16 Try.underlying29 info9 rfl kl kc 0 (by omega) (by omega)
  go_wp2
  refine wp_loop_rounds 1 ?_
  rw [rounds_succ]
  have hJ := fun a c sep w => Try.strings_Join_none a c sep w
  go_wp2_with (go_at_call 24; refine (hJ _ _ _ _).mono ?_; rintro e w' ⟨rfl, rfl⟩)
  go_ret2
  exact ⟨rfl, BW.alloc BW.size _⟩

abbrev cells38 (m : Option Nat) : Array Value := #[.pointer none, .map m, .map none, .bool false]
theorem cell38 (w : World) (m : Option Nat) : (w.alloc (.cells (cells38 m) 38)).cell? ⟨w.heap.size, 1, none⟩ = some (.map m) := by
  have h := (MapKept.heap_alloc w (.cells (cells38 m) 38)).1
  unfold World.cell?
  rw [h]
  rfl
set_option maxRecDepth 100000 in
set_option maxHeartbeats 1000000 in
/-- ZZStringMapDefaultText -/
theorem dt16_any {H : Type} (b n : Nat) (D : DataW H) (w : World) (hown : w.ownsMap Try.prog 9 (plainElem Try.prog 9) b n D) (hn : Maps.size D ≤ 4096)
    (hB : ∀ x, has D (.string x) = true → x.length ≤ 1048576 ∧ (vof D x).length ≤ 1048576) :
    Calls Try.prog 16 #[.map (some b)] w fun e w' => DtPost D e ∧ Below w.heap.size w w' := by
  have hc := dt_any w.heap.size b n D (w.alloc (.cells (cells38 (some b)) 38)) (hown.alloc _) hn (cell38 w _) (by simp) hB
  clear hB hown hn
  go_enter Try.func16, Try.ntmps16
  go_wp2_with (go_at_call 19; refine hc.mono ?_; rintro e w' ⟨⟨ks, h1, h2, h3, rfl⟩, hb⟩; have H1 : Hid _ := h1; have H2 : Hid _ := h2; have H3 : Hid _ := h3; clear h1 h2 h3)
  go_ret2
  exact ⟨⟨ks, H1.out, H2.out, H3.out, rfl⟩, ((Below.refl _ _).alloc (Nat.le_refl _) _).trans (hb.mono (by simp))⟩

set_option maxRecDepth 100000 in
set_option maxHeartbeats 1000000 in
theorem dt16_nil (w : World) :
    Calls Try.prog 16 #[.map none] w fun e w' => e = .returned (.tuple #[.string ⟨#[]⟩, .bool false]) ∧ Below w.heap.size w w' := by
  have hc := dt_nil w.heap.size (w.alloc (.cells (cells38 none) 38)) (cell38 w _)
  go_enter Try.func16, Try.ntmps16
  go_wp2_with (go_at_call 19; refine hc.mono ?_; rintro e w' ⟨rfl, hb⟩)
  go_ret2
  exact ⟨rfl, ((Below.refl _ _).alloc (Nat.le_refl _) _).trans (hb.mono (by simp))⟩
#print axioms dt16_any
#print axioms dt16_nil
#print axioms dt_any
end Go.Proofs.Qxb6605527a
