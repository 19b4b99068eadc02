/- The walk of laws.has; a text of one rune, of one byte; a text with one character for all of a list. -/
import Derived.Test.YtdgaehkfdaacjaaDoorTrBare
import Derived.Laws.Cover4
set_option linter.unusedVariables false
namespace Go.Proofs.YtdgaehkfdaacjaaDoor
open Go.RowKit Plain

set_option maxHeartbeats 2000000 in
set_option maxRecDepth 100000 in
theorem has_any (s : ByteArray) (n : Nat) (hn : n < 256) (w : World) (hs : s.size ≤ 140737488355328) :
    Calls Tryd.prog 21 #[.string s, .int .u8 (n : Int)] w fun e w' => e = .returned (.bool (decide (n ∈ s.data.toList.map fun c => c.toNat))) ∧ w' = w := by
  obtain ⟨Z, hZ⟩ : ∃ Z, decide (n ∈ s.data.toList.map fun c => c.toNat) = Z := ⟨_, rfl⟩
  rw [hZ]
  have HZ := Lib.hid hZ
  clear hZ
  go_enter Tryd.func21, Tryd.ntmps21
  go_wp2
  go_loopw [5] (fun iv wr => ∃ (i : Nat), iv = .int .i64 i ∧ i ≤ s.size ∧ (∀ j b, j < i → s.data.toList[j]? = some b → b.toNat ≠ n) ∧ wr = w) (fun iv _ => match iv with | .int _ i => s.size - i.toNat | _ => 0)
  case atStart => exact ⟨0, rfl, Nat.zero_le _, fun j b h => by omega, rfl⟩
  case round =>
    obtain ⟨i, rfl, his, hno, rfl⟩ := hrel
    have HN := Lib.hid hno
    clear hno
    by_cases hlt : i < s.size
    · have hz : (i : Int) < (s.size : Int) := by omega
      have hat := byte_at s i hlt
      have HA := Lib.hid hat
      clear hat
      have hx256 : ((s[i]'hlt).toNat : Int) < 256 := by have := (s[i]'hlt).toNat_lt; omega
      by_cases he : (s[i]'hlt).toNat = n
      · have heq : (((s[i]'hlt).toNat : Int) == (n : Int)) = true := by rw [beq_iff_eq]; omega
        have hres : decide (n ∈ s.data.toList.map fun c => c.toNat) = true := decide_eq_true (List.mem_map.2 ⟨s[i]'hlt, List.mem_of_getElem? HA.out, he⟩)
        have HR := Lib.hid (HZ.out.symm.trans hres)
        clear hres he
        go_wp2
        go_ret
        exact ⟨ret_bool HR.out.symm, rfl⟩
      · have hne : (((s[i]'hlt).toNat : Int) == (n : Int)) = false := by rw [beq_eq_false_iff_ne]; omega
        have HE := Lib.hid he
        clear he
        go_wp2
        go_roundw
        case rel =>
          refine ⟨i + 1, by go_num, by omega, fun j b h1 h2 => ?_, trivial⟩
          by_cases hji : j < i
          · exact HN.out j b hji h2
          · obtain rfl : j = i := by omega
            rw [HA.out] at h2
            obtain rfl := Option.some.inj h2
            exact HE.out
        case measure => show s.size - ((i : Int) + 1).toNat < s.size - (i : Int).toNat; omega
    · have hz : ¬ (i : Int) < (s.size : Int) := by omega
      have hres : decide (n ∈ s.data.toList.map fun c => c.toNat) = false := by
        refine decide_eq_false fun hm => ?_
        obtain ⟨b, hb, hbn⟩ := List.mem_map.1 hm
        obtain ⟨j, hj⟩ := List.mem_iff_getElem?.1 hb
        have hj2 : j < s.data.toList.length := (List.getElem?_eq_some_iff.1 hj).1
        rw [← Lib.size_eq] at hj2
        exact HN.out j b (by omega) hj hbn
      have HR := Lib.hid (HZ.out.symm.trans hres)
      clear hres
      go_wp2
      go_ret
      exact ⟨ret_bool HR.out.symm, rfl⟩
/-- a text of one rune -/
theorem conv_rune (r : Int) (W : World) (B : Nat) (hc : W.cell? ⟨B, 0, none⟩ = some (.int .i32 r)) :
    (convert 33 9 (.slice (some ⟨B, 0, none⟩) 1 1)).run Tryd.prog W = .ok (.string (Utf8.encode r)) W := by
  have h := run_convert_runes (P := Tryd.prog) W 33 9 21 ⟨B, 0, none⟩ 1 1 [r] (by simp) Tryd.underlying33 Tryd.underlying21 Tryd.underlying9 (by
    intro j hj
    have : j = 0 := by simpa using hj
    subst this
    exact hc)
  rw [h]
  congr 2
/-- a text of one byte -/
theorem conv_byte (x : UInt8) (v : Int) (hv : (x.toNat : Int) = v) (W : World) (B : Nat) (hc : W.cell? ⟨B, 0, none⟩ = some (.int .u8 v)) :
    (convert 30 9 (.slice (some ⟨B, 0, none⟩) 1 1)).run Tryd.prog W = .ok (.string ⟨#[x]⟩) W := by
  subst hv
  refine run_convert_bytes_back W 30 9 5 ⟨B, 0, none⟩ 1 [x] Tryd.underlying30 Tryd.underlying5 Tryd.underlying9 ?_
  intro j hj
  have : j = 0 := by simpa using hj
  subst this
  exact hc
/-- a text with one character for all of a list, by its runes -/
def lastR (P : List UInt8) (x : UInt8) (rs : List Nat) : List UInt8 := (rs.map fun r => if r ∈ rnsL P then [x] else Lib.encodeRune (r : Int)).flatten
theorem lastR_in (P : List UInt8) (x : UInt8) {r : Nat} (rs : List Nat) (h : r ∈ rnsL P) : lastR P x (r :: rs) = x :: lastR P x rs := by
  unfold lastR
  rw [List.map_cons, List.flatten_cons, if_pos h]
  rfl
theorem lastR_out (P : List UInt8) (x : UInt8) {r : Nat} (rs : List Nat) (h : r ∉ rnsL P) : lastR P x (r :: rs) = Lib.encodeRune (r : Int) ++ lastR P x rs := by
  unfold lastR
  rw [List.map_cons, List.flatten_cons, if_neg h]
theorem trS_last {P : ByteArray} (h : simB P = true) (x : UInt8) (hx : alnB x = true) (s : ByteArray) (hv : Lib.validD s.data.toList = true) : (trS P ⟨#[x]⟩ s).data.toList = lastR P.data.toList x (rnsL s.data.toList) := by
  obtain ⟨h1, h2⟩ := simB_bare h
  show (trB P.data.toList [x] s.data.toList).toArray.toList = _
  rw [List.toList_toArray]
  unfold trB trL lastR rnsL
  rw [if_neg h1, List.map_map]
  congr 1
  refine List.map_congr_left fun c hc => ?_
  rw [trSeg_one h1 h2 x hx]
  show _ = if runeOf c ∈ rnsL P.data.toList then [x] else Lib.encodeRune (runeOf c : Int)
  rw [encode_runeOf c (segs_good _ hv c hc)]
end Go.Proofs.YtdgaehkfdaacjaaDoor
