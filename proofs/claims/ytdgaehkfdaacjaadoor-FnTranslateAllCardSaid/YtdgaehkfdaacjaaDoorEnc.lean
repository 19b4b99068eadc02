/- A rune's form as a list. -/
import Derived.Test.YtdgaehkfdaacjaaDoorDec
import Derived.Lib.MapLaws
import Derived.Laws.Cover4
namespace Go.Proofs.YtdgaehkfdaacjaaDoor
open Go.RowKit Plain
theorem u8_of (a : Nat) (b : Int) (h : b.toNat = a) : UInt8.ofNat a = b.toNat.toUInt8 := by rw [h]
theorem encode_list (r : Int) : (Utf8.encode r).data.toList = Lib.encodeRune r := by
  unfold Lib.encodeRune
  by_cases h1 : 0 ≤ r ∧ r ≤ 127
  · rw [Lib.encodeRuneZ_one h1.1 h1.2]
    have hv : Utf8.valid r = true := by simp [Utf8.valid]; omega
    simp only [Utf8.encode, hv, if_true]
    rw [if_pos (by omega)]
    simp only [List.map_cons, List.map_nil]
  by_cases h2 : 128 ≤ r ∧ r ≤ 2047
  · rw [Lib.encodeRuneZ_two h2.1 h2.2]
    have hv : Utf8.valid r = true := by simp [Utf8.valid]; omega
    simp only [Utf8.encode, hv, if_true]
    rw [if_neg (by omega), if_pos (by omega)]
    simp only [List.map_cons, List.map_nil]
    rw [u8_of _ (192 + r / 64) (by omega), u8_of _ (128 + r % 64) (by omega)]
  by_cases h3 : (2048 ≤ r ∧ r < 55296) ∨ (57343 < r ∧ r ≤ 65535)
  · rw [Lib.encodeRuneZ_three h3]
    have hv : Utf8.valid r = true := by simp [Utf8.valid]; omega
    simp only [Utf8.encode, hv, if_true]
    rw [if_neg (by omega), if_neg (by omega), if_pos (by omega)]
    simp only [List.map_cons, List.map_nil]
    rw [u8_of _ (224 + r / 4096) (by omega), u8_of _ (128 + r / 64 % 64) (by omega), u8_of _ (128 + r % 64) (by omega)]
  by_cases h4 : 65536 ≤ r ∧ r ≤ 1114111
  · rw [Lib.encodeRuneZ_four h4.1 h4.2]
    have hv : Utf8.valid r = true := by simp [Utf8.valid]; omega
    simp only [Utf8.encode, hv, if_true]
    rw [if_neg (by omega), if_neg (by omega), if_neg (by omega)]
    simp only [List.map_cons, List.map_nil]
    rw [u8_of _ (240 + r / 262144) (by omega), u8_of _ (128 + r / 4096 % 64) (by omega), u8_of _ (128 + r / 64 % 64) (by omega), u8_of _ (128 + r % 64) (by omega)]
  · rw [Lib.encodeRuneZ_bad (by omega)]
    have hv : Utf8.valid r = false := by
      simp only [Utf8.valid, Bool.or_eq_false_iff, Bool.and_eq_false_iff, decide_eq_false_iff_not]
      omega
    unfold Utf8.encode
    rw [hv]
    simp only [Bool.false_eq_true, if_false]
    decide +kernel
theorem encode_str (r : Int) : Utf8.encode r = ⟨(Lib.encodeRune r).toArray⟩ := by
  apply ByteArray.ext
  apply Array.toList_inj.1
  rw [encode_list]
theorem encode_len (r : Int) : (Lib.encodeRune r).length ≤ 4 := by
  rw [← encode_list, ← Lib.size_eq]; exact encode_size_le r
end Go.Proofs.YtdgaehkfdaacjaaDoor
