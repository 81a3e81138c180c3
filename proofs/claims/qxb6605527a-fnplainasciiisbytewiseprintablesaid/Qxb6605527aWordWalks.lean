import Derived.Test.Qxb6605527aProg
import Derived.Test.Qxb6605527aWord
import Derived.WalkKit
import Derived.WalkSpells
import Derived.WalkLawsBesides
import Derived.Deep.QuietTactic
import Derived.BigQuiet
import Derived.Deep.RegionWith
import Derived.Laws.BitsAllLaws
namespace Go.Proofs.Qxb6605527a
open Go.RowKit

theorem ret_bool {a b : Bool} (h : a = b) : Ending.returned (.bool a) = .returned (.bool b) := by rw [h]
theorem ret_u64 {a b : Int} (h : a = b) : Ending.returned (.int .u64 a) = .returned (.int .u64 b) := by rw [h]

/-- the word's test, as the walk spells it -/
theorem plain_spelt (W : Nat) (hW : W < 18446744073709551616) :
    (bits BinOp.and IntKind.u64
      (bits BinOp.or IntKind.u64
        (bits BinOp.or IntKind.u64
          (bits BinOp.andNot IntKind.u64 (IntKind.u64.wrap ((W : Int) - 2314885530818453536)) (W : Int))
          (bits BinOp.or IntKind.u64 (IntKind.u64.wrap ((W : Int) + 72340172838076673)) (W : Int)))
        (bits BinOp.andNot IntKind.u64
          (IntKind.u64.wrap (bits BinOp.xor IntKind.u64 (W : Int) 4412750543122677053 - 72340172838076673))
          (bits BinOp.xor IntKind.u64 (W : Int) 4412750543122677053)))
      9259542123273814144 == 0) = Qw.wordOk W := by
  have e1 : IntKind.u64.wrap ((W : Int) - 2314885530818453536) = (((W + 18446744073709551616 - 2314885530818453536) % 18446744073709551616 : Nat) : Int) := by
    rw [IntKind.wrap_u64]; omega
  have e2 : IntKind.u64.wrap ((W : Int) + 72340172838076673) = (((W + 72340172838076673) % 18446744073709551616 : Nat) : Int) := by
    rw [IntKind.wrap_u64]; omega
  have e3 : bits BinOp.xor IntKind.u64 (W : Int) 4412750543122677053 = ((Qw.eqw W : Nat) : Int) := bits_xor_u64_nat W 4412750543122677053 hW (by omega)
  have ht : Qw.eqw W < 18446744073709551616 := Nat.xor_lt_two_pow (n := 64) hW (by omega)
  have e4 : IntKind.u64.wrap (((Qw.eqw W : Nat) : Int) - 72340172838076673) = (((Qw.eqw W + 18446744073709551616 - 72340172838076673) % 18446744073709551616 : Nat) : Int) := by
    rw [IntKind.wrap_u64]; omega
  have l1 : (W + 18446744073709551616 - 2314885530818453536) % 18446744073709551616 < 18446744073709551616 := Nat.mod_lt _ (by omega)
  have l2 : (W + 72340172838076673) % 18446744073709551616 < 18446744073709551616 := Nat.mod_lt _ (by omega)
  have l3 : (Qw.eqw W + 18446744073709551616 - 72340172838076673) % 18446744073709551616 < 18446744073709551616 := Nat.mod_lt _ (by omega)
  have b1 : Qw.ctl W < 18446744073709551616 := Nat.and_lt_two_pow (n := 64) _ (by omega)
  have b2 : Qw.bey W < 18446744073709551616 := Nat.or_lt_two_pow (n := 64) l2 hW
  have b3 : Qw.eqs (Qw.eqw W) < 18446744073709551616 := Nat.and_lt_two_pow (n := 64) _ (by omega)
  have b4 : Qw.ctl W ||| Qw.bey W < 18446744073709551616 := Nat.or_lt_two_pow (n := 64) b1 b2
  have b5 : Qw.ctl W ||| Qw.bey W ||| Qw.eqs (Qw.eqw W) < 18446744073709551616 := Nat.or_lt_two_pow (n := 64) b4 b3
  rw [e3, e1, e2, e4, u64_andNot_nat _ _ l1 hW, u64_or_nat _ _ l2 hW, u64_andNot_nat _ _ l3 ht]
  rw [show (W + 18446744073709551616 - 2314885530818453536) % 18446744073709551616 &&& (18446744073709551615 - W) = Qw.ctl W from rfl]
  rw [show (W + 72340172838076673) % 18446744073709551616 ||| W = Qw.bey W from rfl]
  rw [show (Qw.eqw W + 18446744073709551616 - 72340172838076673) % 18446744073709551616 &&& (18446744073709551615 - Qw.eqw W) = Qw.eqs (Qw.eqw W) from rfl]
  rw [u64_or_nat _ _ b1 b2, u64_or_nat _ _ b4 b3]
  have e9 := u64_and_nat (Qw.ctl W ||| Qw.bey W ||| Qw.eqs (Qw.eqw W)) 9259542123273814144 b5 (by omega)
  have e10 : bits BinOp.and IntKind.u64 ((Qw.ctl W ||| Qw.bey W ||| Qw.eqs (Qw.eqw W) : Nat) : Int) 9259542123273814144 = (((Qw.ctl W ||| Qw.bey W ||| Qw.eqs (Qw.eqw W)) &&& 9259542123273814144 : Nat) : Int) := e9
  rw [e10]
  unfold Qw.wordOk
  rw [Bool.eq_iff_iff, beq_iff_eq, decide_eq_true_iff]
  omega

set_option maxHeartbeats 400000 in
theorem plainWord_any (W : Nat) (w : World) (hW : W < 18446744073709551616) :
    Calls Try.prog 20 #[.int .u64 (W : Int)] w fun e w' => e = .returned (.bool (Qw.wordOk W)) ∧ w' = w := by
  have HP : Hid _ := plain_spelt W hW
  go_enter Try.func20, Try.ntmps20
  go_wp2
  go_ret
  exact ⟨ret_bool HP.out, rfl⟩

theorem idx (s : ByteArray) (i : Int) (j : Nat) (hi : i = j) (h : j < s.size) (w : World) :
    (Instr.index 9 (.string s) (.int .i64 i)).run Try.prog w = .ok (.int .u8 (s[j].toNat : Int)) w := by
  subst hi
  rw [run_index_string w 9 s .i64 _ Try.underlying9, dif_pos ⟨by omega, by omega⟩]
  simp

/-- the bytes of a string, as naturals -/
def bs (s : ByteArray) : List Nat := s.data.toList.map UInt8.toNat
theorem byte_lt (c : UInt8) : c.toNat < 256 := UInt8.toNat_lt c
theorem wrap_small (x : Nat) (h : x < 18446744073709551616) : IntKind.u64.wrap (x : Int) = (x : Int) := by
  rw [IntKind.wrap_u64]; omega
theorem jn (x b i : Nat) (hx : x < 2 ^ i) : x ||| (b * 2 ^ i) = x + b * 2 ^ i := by
  rw [Nat.or_comm, nat_join i _ _ (Nat.mul_mod_left _ _) hx, Nat.add_comm]
theorem jnI (x i : Nat) (c : UInt8) (M : Int) (hM : M = ((2 ^ i : Nat) : Int)) (hi : i ≤ 56) (hx : x < 2 ^ i) :
    bits .or .u64 (x : Int) (IntKind.u64.wrap (IntKind.u64.wrap (c.toNat : Int) * M)) = ((x + c.toNat * 2 ^ i : Nat) : Int) := by
  have hc := byte_lt c
  have hp : 2 ^ i ≤ 2 ^ 56 := Nat.pow_le_pow_right (by omega) hi
  have hm : c.toNat * 2 ^ i ≤ 255 * 2 ^ 56 := Nat.mul_le_mul (by omega) hp
  have hl : c.toNat * 2 ^ i < 18446744073709551616 := by omega
  rw [hM, wrap_small _ (by omega), show ((c.toNat : Int) * ((2 ^ i : Nat) : Int)) = ((c.toNat * 2 ^ i : Nat) : Int) by rw [Int.natCast_mul], wrap_small _ hl,
    u64_or_nat _ _ (by omega) hl, jn _ _ _ hx]
theorem word32_spelt (a b c d : UInt8) :
    bits .or .u64 (bits .or .u64 (bits .or .u64 (IntKind.u64.wrap (a.toNat : Int)) (IntKind.u64.wrap (IntKind.u64.wrap (b.toNat : Int) * 256)))
      (IntKind.u64.wrap (IntKind.u64.wrap (c.toNat : Int) * 65536))) (IntKind.u64.wrap (IntKind.u64.wrap (d.toNat : Int) * 16777216)) =
    ((Qw.val [a.toNat, b.toNat, c.toNat, d.toNat] : Nat) : Int) := by
  have ha := byte_lt a; have hb := byte_lt b; have hc := byte_lt c; have hd := byte_lt d
  rw [wrap_small a.toNat (by omega), jnI _ 8 b 256 rfl (by omega) (by omega), jnI _ 16 c 65536 rfl (by omega) (by omega), jnI _ 24 d 16777216 rfl (by omega) (by omega)]
  simp only [Qw.val]
  omega
theorem word_spelt (a b c d e f g h : UInt8) :
    bits .or .u64 (bits .or .u64 (bits .or .u64 (bits .or .u64 (bits .or .u64 (bits .or .u64 (bits .or .u64 (IntKind.u64.wrap (a.toNat : Int)) (IntKind.u64.wrap (IntKind.u64.wrap (b.toNat : Int) * 256)))
      (IntKind.u64.wrap (IntKind.u64.wrap (c.toNat : Int) * 65536))) (IntKind.u64.wrap (IntKind.u64.wrap (d.toNat : Int) * 16777216)))
      (IntKind.u64.wrap (IntKind.u64.wrap (e.toNat : Int) * 4294967296))) (IntKind.u64.wrap (IntKind.u64.wrap (f.toNat : Int) * 1099511627776)))
      (IntKind.u64.wrap (IntKind.u64.wrap (g.toNat : Int) * 281474976710656))) (IntKind.u64.wrap (IntKind.u64.wrap (h.toNat : Int) * 72057594037927936)) =
    ((Qw.val [a.toNat, b.toNat, c.toNat, d.toNat, e.toNat, f.toNat, g.toNat, h.toNat] : Nat) : Int) := by
  have ha := byte_lt a; have hb := byte_lt b; have hc := byte_lt c; have hd := byte_lt d
  have he := byte_lt e; have hf := byte_lt f; have hg := byte_lt g; have hh := byte_lt h
  rw [wrap_small a.toNat (by omega), jnI _ 8 b 256 rfl (by omega) (by omega), jnI _ 16 c 65536 rfl (by omega) (by omega), jnI _ 24 d 16777216 rfl (by omega) (by omega),
    jnI _ 32 e 4294967296 rfl (by omega) (by omega), jnI _ 40 f 1099511627776 rfl (by omega) (by omega), jnI _ 48 g 281474976710656 rfl (by omega) (by omega), jnI _ 56 h 72057594037927936 rfl (by omega) (by omega)]
  simp only [Qw.val]
  omega

set_option maxHeartbeats 400000 in
theorem word32_any (s : ByteArray) (w : World) (h : 4 ≤ s.size) :
    Calls Try.prog 25 #[.string s] w fun e w' => e = .returned (.int .u64 ((Qw.val [s[0].toNat, s[1].toNat, s[2].toNat, s[3].toNat] : Nat) : Int)) ∧ ∃ n, w' = w.drewN n := by
  have g0 := fun w => idx s 0 0 rfl (by omega) w
  have g1 := fun w => idx s 1 1 rfl (by omega) w
  have g2 := fun w => idx s 2 2 rfl (by omega) w
  have g3 := fun w => idx s 3 3 rfl (by omega) w
  have HS : Hid _ := word32_spelt s[0] s[1] s[2] s[3]
  go_enter Try.func25, Try.ntmps25
  go_wp2
  go_quiet (fail)
  go_wp2
  go_ret
  exact ⟨ret_u64 HS.out, nq, rfl⟩

set_option maxHeartbeats 1000000 in
theorem word_any (s : ByteArray) (w : World) (h : 8 ≤ s.size) :
    Calls Try.prog 22 #[.string s] w fun e w' => e = .returned (.int .u64 ((Qw.val [s[0].toNat, s[1].toNat, s[2].toNat, s[3].toNat, s[4].toNat, s[5].toNat, s[6].toNat, s[7].toNat] : Nat) : Int)) ∧ ∃ n, w' = w.drewN n := by
  have g0 := fun w => idx s 0 0 rfl (by omega) w
  have g1 := fun w => idx s 1 1 rfl (by omega) w
  have g2 := fun w => idx s 2 2 rfl (by omega) w
  have g3 := fun w => idx s 3 3 rfl (by omega) w
  have g4 := fun w => idx s 4 4 rfl (by omega) w
  have g5 := fun w => idx s 5 5 rfl (by omega) w
  have g6 := fun w => idx s 6 6 rfl (by omega) w
  have g7 := fun w => idx s 7 7 rfl (by omega) w
  have HS : Hid _ := word_spelt s[0] s[1] s[2] s[3] s[4] s[5] s[6] s[7]
  go_enter Try.func22, Try.ntmps22
  go_wp2
  go_quiet (fail)
  go_wp2
  go_ret
  exact ⟨ret_u64 HS.out, nq, rfl⟩
theorem word32_at (s : ByteArray) (k m : Nat) (w : World) (h : k + 4 ≤ s.size) (hm : m = s.size) :
    Calls Try.prog 25 #[.string (s.extract k m)] w fun e w' => e = .returned (.int .u64 ((Qw.val [s[k].toNat, s[k + 1].toNat, s[k + 2].toNat, s[k + 3].toNat] : Nat) : Int)) ∧ ∃ n, w' = w.drewN n := by
  subst hm
  have hs : (s.extract k s.size).size = s.size - k := by simp
  have c := word32_any (s.extract k s.size) w (by omega)
  simp only [ByteArray.getElem_extract, Nat.add_zero] at c
  exact c
theorem or_small (x y : Nat) (M : Int) (i : Nat) (hM : M = ((2 ^ i : Nat) : Int)) (hx : x < 18446744073709551616) (hy : y * 2 ^ i < 18446744073709551616) (r : Nat) (hr : x ||| y * 2 ^ i = r) :
    bits .or .u64 (x : Int) (IntKind.u64.wrap ((y : Int) * M)) = (r : Int) := by
  rw [hM, show ((y : Int) * ((2 ^ i : Nat) : Int)) = ((y * 2 ^ i : Nat) : Int) by rw [Int.natCast_mul], wrap_small _ hy, u64_or_nat _ _ hx hy, hr]
theorem val_lt32 (a b c d : UInt8) : Qw.val [a.toNat, b.toNat, c.toNat, d.toNat] < 4294967296 := by
  have ha := byte_lt a; have hb := byte_lt b; have hc := byte_lt c; have hd := byte_lt d
  simp only [Qw.val]; omega
theorem bs_get (s : ByteArray) (k : Nat) (h : k < s.size) : (bs s)[k]? = some s[k].toNat := by
  unfold bs
  rw [List.getElem?_map, List.getElem?_eq_getElem (by simpa using h)]
  rfl
theorem bs_len (s : ByteArray) : (bs s).length = s.size := by simp [bs]
theorem bs_0 (s : ByteArray) (h : s.size = 0) : bs s = [] := List.eq_nil_of_length_eq_zero (by rw [bs_len]; exact h)
theorem bs_1 (s : ByteArray) (h : s.size = 1) : bs s = [s[0].toNat] := by
  apply List.ext_getElem?
  intro i
  by_cases hi : i < 1
  · rw [bs_get s i (by omega)]
    match i, hi with
    | 0, _ => rfl
  · rw [List.getElem?_eq_none (by rw [bs_len]; omega), List.getElem?_eq_none (by simp; omega)]
theorem bs_2 (s : ByteArray) (h : s.size = 2) : bs s = [s[0].toNat, s[1].toNat] := by
  apply List.ext_getElem?
  intro i
  by_cases hi : i < 2
  · rw [bs_get s i (by omega)]
    match i, hi with
    | 0, _ => rfl
    | 1, _ => rfl
  · rw [List.getElem?_eq_none (by rw [bs_len]; omega), List.getElem?_eq_none (by simp; omega)]
theorem bs_3 (s : ByteArray) (h : s.size = 3) : bs s = [s[0].toNat, s[1].toNat, s[2].toNat] := by
  apply List.ext_getElem?
  intro i
  by_cases hi : i < 3
  · rw [bs_get s i (by omega)]
    match i, hi with
    | 0, _ => rfl
    | 1, _ => rfl
    | 2, _ => rfl
  · rw [List.getElem?_eq_none (by rw [bs_len]; omega), List.getElem?_eq_none (by simp; omega)]
theorem bs_4 (s : ByteArray) (h : s.size = 4) : bs s = [s[0].toNat, s[1].toNat, s[2].toNat, s[3].toNat] := by
  apply List.ext_getElem?
  intro i
  by_cases hi : i < 4
  · rw [bs_get s i (by omega)]
    match i, hi with
    | 0, _ => rfl
    | 1, _ => rfl
    | 2, _ => rfl
    | 3, _ => rfl
  · rw [List.getElem?_eq_none (by rw [bs_len]; omega), List.getElem?_eq_none (by simp; omega)]
theorem bs_5 (s : ByteArray) (h : s.size = 5) : bs s = [s[0].toNat, s[1].toNat, s[2].toNat, s[3].toNat, s[4].toNat] := by
  apply List.ext_getElem?
  intro i
  by_cases hi : i < 5
  · rw [bs_get s i (by omega)]
    match i, hi with
    | 0, _ => rfl
    | 1, _ => rfl
    | 2, _ => rfl
    | 3, _ => rfl
    | 4, _ => rfl
  · rw [List.getElem?_eq_none (by rw [bs_len]; omega), List.getElem?_eq_none (by simp; omega)]
theorem bs_6 (s : ByteArray) (h : s.size = 6) : bs s = [s[0].toNat, s[1].toNat, s[2].toNat, s[3].toNat, s[4].toNat, s[5].toNat] := by
  apply List.ext_getElem?
  intro i
  by_cases hi : i < 6
  · rw [bs_get s i (by omega)]
    match i, hi with
    | 0, _ => rfl
    | 1, _ => rfl
    | 2, _ => rfl
    | 3, _ => rfl
    | 4, _ => rfl
    | 5, _ => rfl
  · rw [List.getElem?_eq_none (by rw [bs_len]; omega), List.getElem?_eq_none (by simp; omega)]
theorem bs_7 (s : ByteArray) (h : s.size = 7) : bs s = [s[0].toNat, s[1].toNat, s[2].toNat, s[3].toNat, s[4].toNat, s[5].toNat, s[6].toNat] := by
  apply List.ext_getElem?
  intro i
  by_cases hi : i < 7
  · rw [bs_get s i (by omega)]
    match i, hi with
    | 0, _ => rfl
    | 1, _ => rfl
    | 2, _ => rfl
    | 3, _ => rfl
    | 4, _ => rfl
    | 5, _ => rfl
    | 6, _ => rfl
  · rw [List.getElem?_eq_none (by rw [bs_len]; omega), List.getElem?_eq_none (by simp; omega)]
theorem sp1 (a : UInt8) : bits .or .u64 (bits .or .u64 (IntKind.u64.wrap (a.toNat : Int)) (IntKind.u64.wrap (IntKind.u64.wrap (a.toNat : Int)))) (IntKind.u64.wrap (IntKind.u64.wrap (a.toNat : Int))) = ((Qw.val [a.toNat] : Nat) : Int) := by
  have ha := byte_lt a
  rw [wrap_small a.toNat (by omega), wrap_small a.toNat (by omega), u64_or_nat _ _ (by omega) (by omega), Nat.or_self, u64_or_nat _ _ (by omega) (by omega), Nat.or_self]
  simp [Qw.val]
theorem val_lt16 (a b : UInt8) : Qw.val [a.toNat, b.toNat] < 65536 := by
  have ha := byte_lt a; have hb := byte_lt b
  simp only [Qw.val]; omega
theorem sp2 (a b : UInt8) : bits .or .u64 (bits .or .u64 (IntKind.u64.wrap (a.toNat : Int)) (IntKind.u64.wrap (IntKind.u64.wrap (b.toNat : Int) * 256))) (IntKind.u64.wrap (IntKind.u64.wrap (b.toNat : Int) * 256)) = ((Qw.val [a.toNat, b.toNat] : Nat) : Int) := by
  have ha := byte_lt a; have hb := byte_lt b
  have h := Qw.or2 a.toNat b.toNat ha hb
  have hv := val_lt16 a b
  rw [wrap_small a.toNat (by omega), wrap_small b.toNat (by omega), or_small _ _ 256 8 rfl (by omega) (by omega) _ h.1, or_small _ _ 256 8 rfl (by omega) (by omega) _ h.2]
theorem sp3 (a b c : UInt8) : bits .or .u64 (bits .or .u64 (IntKind.u64.wrap (a.toNat : Int)) (IntKind.u64.wrap (IntKind.u64.wrap (b.toNat : Int) * 256))) (IntKind.u64.wrap (IntKind.u64.wrap (c.toNat : Int) * 65536)) = ((Qw.val [a.toNat, b.toNat, c.toNat] : Nat) : Int) := by
  have ha := byte_lt a; have hb := byte_lt b; have hc := byte_lt c
  have h := Qw.or3 a.toNat b.toNat c.toNat ha hb hc
  have hv := val_lt16 a b
  rw [wrap_small a.toNat (by omega), wrap_small b.toNat (by omega), wrap_small c.toNat (by omega), or_small _ _ 256 8 rfl (by omega) (by omega) _ h.1, or_small _ _ 65536 16 rfl (by omega) (by omega) _ h.2]
theorem sp4 (a b c d : UInt8) : bits .or .u64 ((Qw.val [a.toNat, b.toNat, c.toNat, d.toNat] : Nat) : Int) (IntKind.u64.wrap ((Qw.val [a.toNat, b.toNat, c.toNat, d.toNat] : Nat) : Int)) = ((Qw.val [a.toNat, b.toNat, c.toNat, d.toNat] : Nat) : Int) := by
  have hv := val_lt32 a b c d
  rw [wrap_small _ (by omega), u64_or_nat _ _ (by omega) (by omega), Nat.or_self]
theorem sp5 (a b c d e : UInt8) : bits .or .u64 ((Qw.val [a.toNat, b.toNat, c.toNat, d.toNat] : Nat) : Int) (IntKind.u64.wrap (((Qw.val [b.toNat, c.toNat, d.toNat, e.toNat] : Nat) : Int) * 256)) = ((Qw.val [a.toNat, b.toNat, c.toNat, d.toNat, e.toNat] : Nat) : Int) := by
  have hv := val_lt32 a b c d
  have hw := val_lt32 b c d e
  exact or_small _ _ 256 8 rfl (by omega) (by omega) _ (Qw.or5 _ _ _ _ _ (byte_lt a) (byte_lt b) (byte_lt c) (byte_lt d) (byte_lt e))
theorem sp6 (a b c d e f : UInt8) : bits .or .u64 ((Qw.val [a.toNat, b.toNat, c.toNat, d.toNat] : Nat) : Int) (IntKind.u64.wrap (((Qw.val [c.toNat, d.toNat, e.toNat, f.toNat] : Nat) : Int) * 65536)) = ((Qw.val [a.toNat, b.toNat, c.toNat, d.toNat, e.toNat, f.toNat] : Nat) : Int) := by
  have hv := val_lt32 a b c d
  have hw := val_lt32 c d e f
  exact or_small _ _ 65536 16 rfl (by omega) (by omega) _ (Qw.or6 _ _ _ _ _ _ (byte_lt a) (byte_lt b) (byte_lt c) (byte_lt d) (byte_lt e) (byte_lt f))
theorem sp7 (a b c d e f g : UInt8) : bits .or .u64 ((Qw.val [a.toNat, b.toNat, c.toNat, d.toNat] : Nat) : Int) (IntKind.u64.wrap (((Qw.val [d.toNat, e.toNat, f.toNat, g.toNat] : Nat) : Int) * 16777216)) = ((Qw.val [a.toNat, b.toNat, c.toNat, d.toNat, e.toNat, f.toNat, g.toNat] : Nat) : Int) := by
  have hv := val_lt32 a b c d
  have hw := val_lt32 d e f g
  exact or_small _ _ 16777216 24 rfl (by omega) (by omega) _ (Qw.or7 _ _ _ _ _ _ _ (byte_lt a) (byte_lt b) (byte_lt c) (byte_lt d) (byte_lt e) (byte_lt f) (byte_lt g))
theorem small_0 (s : ByteArray) (w : World) (h : s.size = 0) :
    Calls Try.prog 21 #[.string s] w fun e w' => e = .returned (.int .u64 ((Qw.val (bs s) : Nat) : Int)) ∧ ∃ n, w' = w.drewN n := by
  rw [bs_0 s h]
  obtain rfl : s = ByteArray.empty := ByteArray.size_eq_zero_iff.1 h
  clear h
  go_enter Try.func21, Try.ntmps21
  go_wp2
  go_ret
  exact ⟨rfl, 0, rfl⟩
set_option maxHeartbeats 1000000 in
theorem small_1 (s : ByteArray) (w : World) (h : s.size = 1) :
    Calls Try.prog 21 #[.string s] w fun e w' => e = .returned (.int .u64 ((Qw.val (bs s) : Nat) : Int)) ∧ ∃ n, w' = w.drewN n := by
  rw [bs_1 s h]
  have g0 := fun w => idx s 0 0 rfl (by omega) w
  have HS : Hid _ := sp1 s[0]
  go_enter Try.func21, Try.ntmps21
  go_wp2
  go_quiet (fail)
  go_wp2
  go_ret
  exact ⟨ret_u64 HS.out, nq, rfl⟩
set_option maxHeartbeats 1000000 in
theorem small_2 (s : ByteArray) (w : World) (h : s.size = 2) :
    Calls Try.prog 21 #[.string s] w fun e w' => e = .returned (.int .u64 ((Qw.val (bs s) : Nat) : Int)) ∧ ∃ n, w' = w.drewN n := by
  rw [bs_2 s h]
  have g0 := fun w => idx s 0 0 rfl (by omega) w
  have g1 := fun w => idx s 1 1 rfl (by omega) w
  have HS : Hid _ := sp2 s[0] s[1]
  go_enter Try.func21, Try.ntmps21
  go_wp2
  go_quiet (fail)
  go_wp2
  go_ret
  exact ⟨ret_u64 HS.out, nq, rfl⟩
set_option maxHeartbeats 1000000 in
theorem small_3 (s : ByteArray) (w : World) (h : s.size = 3) :
    Calls Try.prog 21 #[.string s] w fun e w' => e = .returned (.int .u64 ((Qw.val (bs s) : Nat) : Int)) ∧ ∃ n, w' = w.drewN n := by
  rw [bs_3 s h]
  have g0 := fun w => idx s 0 0 rfl (by omega) w
  have g1 := fun w => idx s 1 1 rfl (by omega) w
  have g2 := fun w => idx s 2 2 rfl (by omega) w
  have HS : Hid _ := sp3 s[0] s[1] s[2]
  go_enter Try.func21, Try.ntmps21
  go_wp2
  go_quiet (fail)
  go_wp2
  go_ret
  exact ⟨ret_u64 HS.out, nq, rfl⟩
set_option maxHeartbeats 1000000 in
theorem small_4 (s : ByteArray) (w : World) (h : s.size = 4) :
    Calls Try.prog 21 #[.string s] w fun e w' => e = .returned (.int .u64 ((Qw.val (bs s) : Nat) : Int)) ∧ ∃ n, w' = w.drewN n := by
  rw [bs_4 s h]
  have c0 := fun w => word32_any s w (by omega)
  have c1 := fun w => word32_at s 0 4 w (by omega) h.symm
  have H0 : Hid _ := c0
  have H1 : Hid _ := c1
  clear c0 c1
  have HS : Hid _ := sp4 s[0] s[1] s[2] s[3]
  go_enter Try.func21, Try.ntmps21
  go_wp2
  go_quiet ((first | (go_at_call_of 25 (Value.string s); exact Calls.quiet_of (H0.out _)) | (go_at_call_of 25 (Value.string (s.extract 0 4)); exact Calls.quiet_of (H1.out _))))
  go_wp2
  go_ret
  exact ⟨ret_u64 HS.out, nq, rfl⟩
set_option maxHeartbeats 1000000 in
theorem small_5 (s : ByteArray) (w : World) (h : s.size = 5) :
    Calls Try.prog 21 #[.string s] w fun e w' => e = .returned (.int .u64 ((Qw.val (bs s) : Nat) : Int)) ∧ ∃ n, w' = w.drewN n := by
  rw [bs_5 s h]
  have c0 := fun w => word32_any s w (by omega)
  have c1 := fun w => word32_at s 1 5 w (by omega) h.symm
  have H0 : Hid _ := c0
  have H1 : Hid _ := c1
  clear c0 c1
  have HS : Hid _ := sp5 s[0] s[1] s[2] s[3] s[4]
  go_enter Try.func21, Try.ntmps21
  go_wp2
  go_quiet ((first | (go_at_call_of 25 (Value.string s); exact Calls.quiet_of (H0.out _)) | (go_at_call_of 25 (Value.string (s.extract 1 5)); exact Calls.quiet_of (H1.out _))))
  go_wp2
  go_ret
  exact ⟨ret_u64 HS.out, nq, rfl⟩
set_option maxHeartbeats 1000000 in
theorem small_6 (s : ByteArray) (w : World) (h : s.size = 6) :
    Calls Try.prog 21 #[.string s] w fun e w' => e = .returned (.int .u64 ((Qw.val (bs s) : Nat) : Int)) ∧ ∃ n, w' = w.drewN n := by
  rw [bs_6 s h]
  have c0 := fun w => word32_any s w (by omega)
  have c1 := fun w => word32_at s 2 6 w (by omega) h.symm
  have H0 : Hid _ := c0
  have H1 : Hid _ := c1
  clear c0 c1
  have HS : Hid _ := sp6 s[0] s[1] s[2] s[3] s[4] s[5]
  go_enter Try.func21, Try.ntmps21
  go_wp2
  go_quiet ((first | (go_at_call_of 25 (Value.string s); exact Calls.quiet_of (H0.out _)) | (go_at_call_of 25 (Value.string (s.extract 2 6)); exact Calls.quiet_of (H1.out _))))
  go_wp2
  go_ret
  exact ⟨ret_u64 HS.out, nq, rfl⟩
set_option maxHeartbeats 1000000 in
theorem small_7 (s : ByteArray) (w : World) (h : s.size = 7) :
    Calls Try.prog 21 #[.string s] w fun e w' => e = .returned (.int .u64 ((Qw.val (bs s) : Nat) : Int)) ∧ ∃ n, w' = w.drewN n := by
  rw [bs_7 s h]
  have c0 := fun w => word32_any s w (by omega)
  have c1 := fun w => word32_at s 3 7 w (by omega) h.symm
  have H0 : Hid _ := c0
  have H1 : Hid _ := c1
  clear c0 c1
  have HS : Hid _ := sp7 s[0] s[1] s[2] s[3] s[4] s[5] s[6]
  go_enter Try.func21, Try.ntmps21
  go_wp2
  go_quiet ((first | (go_at_call_of 25 (Value.string s); exact Calls.quiet_of (H0.out _)) | (go_at_call_of 25 (Value.string (s.extract 3 7)); exact Calls.quiet_of (H1.out _))))
  go_wp2
  go_ret
  exact ⟨ret_u64 HS.out, nq, rfl⟩
theorem smallWord_any (s : ByteArray) (w : World) (h : s.size < 8) :
    Calls Try.prog 21 #[.string s] w fun e w' => e = .returned (.int .u64 ((Qw.val (bs s) : Nat) : Int)) ∧ ∃ n, w' = w.drewN n := by
  by_cases h0 : s.size = 0
  · exact small_0 s w h0
  · by_cases h1 : s.size = 1
    · exact small_1 s w h1
    · by_cases h2 : s.size = 2
      · exact small_2 s w h2
      · by_cases h3 : s.size = 3
        · exact small_3 s w h3
        · by_cases h4 : s.size = 4
          · exact small_4 s w h4
          · by_cases h5 : s.size = 5
            · exact small_5 s w h5
            · by_cases h6 : s.size = 6
              · exact small_6 s w h6
              · exact small_7 s w (by omega)
end Go.Proofs.Qxb6605527a
