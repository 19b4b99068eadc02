/- The walk of laws.backs. -/
import Derived.Test.YtgmhigjhooihdaaGreatDoorListedW
set_option linter.unusedVariables false
namespace Go.Proofs.YtgmhigjhooihdaaGreatDoor
open Go.RowKit Plain

def Asc (s : ByteArray) : Prop := ∀ x ∈ s.data.toList, x.toNat < 128
def AscD (d : PropD) : Prop := Asc d.key ∧ Asc d.raw ∧ ∀ c ∈ d.com, Asc c
def BK (lat : Bool) (l : List PropD) : Prop := ∀ d ∈ l, NoC d ∧ (lat = true → AscD d)
def AscC (lat : Bool) (cs : List ByteArray) : Prop := lat = true → ∀ c ∈ cs, Asc c
def BackPost (lat : Bool) (l : List PropD) (w : World) (e : Ending) (w' : World) : Prop := BoolP (BK lat l) e ∧ Below w.heap.size w w'
theorem back_snoc {lat : Bool} {l : List PropD} {i : Nat} {d : PropD} (h : BK lat (l.take i)) (hd : l[i]? = some d) (h1 : NoC d ∧ (lat = true → AscD d)) : BK lat (l.take (i + 1)) := by
  unfold BK at *
  rw [List.take_add_one, hd]
  intro x hx
  rcases List.mem_append.1 hx with h9 | h9
  · exact h x h9
  · simp at h9; subst h9; exact h1
set_option maxHeartbeats 16000000 in
set_option maxRecDepth 100000 in
theorem backsF_any (A : Option Addr) (n c : Nat) (l : List PropD) (w : World) (hr : PrA A l w) (hn : l.length = n) (hln : n ≤ 8589934592) (hf : ∀ d ∈ l, FitP d) :
    Calls Tryz.prog 26 #[.slice A n c, .bool false] w (BackPost false l w) := by
  unfold BackPost
  have HR := Lib.hid hr
  have HN := Lib.hid hn
  have HF := Lib.hid hf
  clear hr hn hf
  go_enter Tryz.func26, Tryz.ntmps26
  go_wp2
  go_loopg [11] n (fun gh iv wr => ∃ i : Nat, iv = .int .i64 (i : Int) ∧ i ≤ n ∧ gh = n - i ∧ Hid (BK false (l.take i)) ∧ Hid (Below w.heap.size w wr))
  case atStart => exact ⟨0, rfl, Nat.zero_le _, rfl, Lib.hid (fun x hx => by simp at hx), Lib.hid (Below.refl _ _)⟩
  case round =>
    obtain ⟨i, rfl, hin, rfl, HL, HB⟩ := hrel
    by_cases hlt : i < n
    · have hiz : (i : Int) < (n : Int) := by omega
      obtain ⟨d, hd⟩ : ∃ x, l[i]? = some x := ⟨_, List.getElem?_eq_getElem (by have := HN.out; omega)⟩
      obtain ⟨ad, rfl, hpa⟩ := (HR.out.below HB.out) i d hd
      obtain ⟨q, hq, k0, k1, k2, CA, bc, k3, k4, k5, k6⟩ := hpa.cells
      have HD := Lib.hid hd
      have hfd := HF.out d (List.mem_of_getElem? hd)
      have HFC := Lib.hid hfd.2.2.2.2
      have hcb := hfd.2.2.2.1
      obtain ⟨CN, hCN⟩ : ∃ m, d.com.length = m := ⟨_, rfl⟩
      have HCN := Lib.hid hCN
      rw [hCN] at k3 hcb
      obtain ⟨KK, hKK⟩ : ∃ k, d.key = k := ⟨_, rfl⟩
      obtain ⟨RR, hRR⟩ : ∃ k, d.raw = k := ⟨_, rfl⟩
      have HKK := Lib.hid hKK
      have HRR := Lib.hid hRR
      have hks : KK.size ≤ 2147483647 := hKK ▸ hfd.1
      have hrs : RR.size ≤ 2147483647 := hRR ▸ hfd.2.1
      rw [hKK] at k0
      rw [hRR] at k1
      obtain ⟨VV, hVV⟩ : ∃ k, d.val = k := ⟨_, rfl⟩
      rw [hVV] at k2
      obtain ⟨WA, hWA⟩ : ∃ W, wr.alloc (.cells #[.string KK, .string RR, .string VV, .slice CA CN bc] 34) = W := ⟨_, rfl⟩
      have hxn : WA.heap[wr.heap.size]? = some (.cells #[.string KK, .string RR, .string VV, .slice CA CN bc] 34 (0, 0)) := hWA ▸ heap_alloc_new wr _
      obtain ⟨x0, x1, x2, x3⟩ := four_cellsA hxn
      have HBA : Hid (Below w.heap.size w WA) := Lib.hid (hWA ▸ HB.out.alloc HB.out.size _)
      have HRC : Hid (RowA CA d.com WA) := Lib.hid (hWA ▸ (k4.below ((Below.refl _ wr).alloc (Nat.le_refl _) _)))
      have HWA := Lib.hid hWA
      clear hd hpa hfd hCN hKK hRR hVV hWA hxn k4 k5 k6
      go_wp2_with (first
        | (rw [HWA.out])
        | (go_at_call 13; (with_reducible refine (begins1_any KK 35 _ hks).mono ?_)))
      rintro e w9 ⟨⟨b9, rfl, h9⟩, rfl⟩
      dsimp only
      have HG1 := Lib.hid h9
      clear h9
      cases b9 with
      | true =>
        clear HG1
        go_wp2
        go_ret
        exact ⟨boolP_no _, HBA.out⟩
      | false =>
      have HG1t := Lib.hid (HG1.out rfl)
      clear HG1
      go_wp2_with (go_at_call 13; (with_reducible refine (begins1_any KK 33 _ hks).mono ?_))
      rintro e w9 ⟨⟨b9, rfl, h9⟩, rfl⟩
      dsimp only
      have HG2 := Lib.hid h9
      clear h9
      cases b9 with
      | true =>
        clear HG2
        go_wp2
        go_ret
        exact ⟨boolP_no _, HBA.out⟩
      | false =>
      have HG2t := Lib.hid (HG2.out rfl)
      clear HG2
      have HNC : Hid (NoC d) := Lib.hid (fun y r h => by rw [HKK.out] at h; exact ⟨HG1t.out y r h, HG2t.out y r h⟩)
      go_wp2
      go_loopg [41] CN (fun gh kv wr3 => ∃ k : Nat, kv = .int .i64 (k : Int) ∧ k ≤ CN ∧ gh = CN - k ∧ Hid (AscC false (d.com.take k)) ∧ Hid (w9 = wr3))
      case atStart => exact ⟨0, rfl, Nat.zero_le _, rfl, Lib.hid (fun _ x hx => by simp at hx), Lib.hid rfl⟩
      case round =>
        obtain ⟨k, rfl, hkn, rfl, HCK, HWE⟩ := hrel
        obtain rfl := HWE.out
        clear HWE
        by_cases hkl : k < CN
        · have hkz : (k : Int) < (CN : Int) := by omega
          obtain ⟨cj, hcj⟩ : ∃ x, d.com[k]? = some x := ⟨_, List.getElem?_eq_getElem (by have := HCN.out; omega)⟩
          obtain ⟨ab, rfl, hcell⟩ := HRC.out k cj hcj
          have hcs := HFC.out cj (List.mem_of_getElem? hcj)
          have HCJ := Lib.hid hcj
          clear hcj
          go_wp2
          go_roundg (CN - (k + 1))
          case measure => omega
          case rel => exact ⟨k + 1, by go_num, by omega, rfl, Lib.hid (fun h => by cases h), Lib.hid rfl⟩
        · have hkz : ¬ (k : Int) < (CN : Int) := by omega
          obtain rfl : k = CN := by omega
          have hct : d.com.take k = d.com := List.take_of_length_le (Nat.le_of_eq HCN.out)
          rw [hct] at HCK
          go_wp2
          go_roundg (n - (i + 1))
          case measure => omega
          case rel => exact ⟨i + 1, by go_num, by omega, rfl, Lib.hid (back_snoc HL.out HD.out ⟨HNC.out, fun h => by cases h⟩), HBA⟩
    · have hiz : ¬ (i : Int) < (n : Int) := by omega
      obtain rfl : i = n := by omega
      have ht := HL.out
      rw [List.take_of_length_le (Nat.le_of_eq HN.out)] at ht
      have HL2 := Lib.hid ht
      clear ht
      go_wp2
      go_ret
      exact ⟨boolP_yes HL2.out, HB.out⟩
set_option maxHeartbeats 16000000 in
set_option maxRecDepth 100000 in
theorem backsT_any (A : Option Addr) (n c : Nat) (l : List PropD) (w : World) (hr : PrA A l w) (hn : l.length = n) (hln : n ≤ 8589934592) (hf : ∀ d ∈ l, FitP d) :
    Calls Tryz.prog 26 #[.slice A n c, .bool true] w (BackPost true l w) := by
  unfold BackPost
  have HR := Lib.hid hr
  have HN := Lib.hid hn
  have HF := Lib.hid hf
  clear hr hn hf
  go_enter Tryz.func26, Tryz.ntmps26
  go_wp2
  go_loopg [11] n (fun gh iv wr => ∃ i : Nat, iv = .int .i64 (i : Int) ∧ i ≤ n ∧ gh = n - i ∧ Hid (BK true (l.take i)) ∧ Hid (Below w.heap.size w wr))
  case atStart => exact ⟨0, rfl, Nat.zero_le _, rfl, Lib.hid (fun x hx => by simp at hx), Lib.hid (Below.refl _ _)⟩
  case round =>
    obtain ⟨i, rfl, hin, rfl, HL, HB⟩ := hrel
    by_cases hlt : i < n
    · have hiz : (i : Int) < (n : Int) := by omega
      obtain ⟨d, hd⟩ : ∃ x, l[i]? = some x := ⟨_, List.getElem?_eq_getElem (by have := HN.out; omega)⟩
      obtain ⟨ad, rfl, hpa⟩ := (HR.out.below HB.out) i d hd
      obtain ⟨q, hq, k0, k1, k2, CA, bc, k3, k4, k5, k6⟩ := hpa.cells
      have HD := Lib.hid hd
      have hfd := HF.out d (List.mem_of_getElem? hd)
      have HFC := Lib.hid hfd.2.2.2.2
      have hcb := hfd.2.2.2.1
      obtain ⟨CN, hCN⟩ : ∃ m, d.com.length = m := ⟨_, rfl⟩
      have HCN := Lib.hid hCN
      rw [hCN] at k3 hcb
      obtain ⟨KK, hKK⟩ : ∃ k, d.key = k := ⟨_, rfl⟩
      obtain ⟨RR, hRR⟩ : ∃ k, d.raw = k := ⟨_, rfl⟩
      have HKK := Lib.hid hKK
      have HRR := Lib.hid hRR
      have hks : KK.size ≤ 2147483647 := hKK ▸ hfd.1
      have hrs : RR.size ≤ 2147483647 := hRR ▸ hfd.2.1
      rw [hKK] at k0
      rw [hRR] at k1
      obtain ⟨VV, hVV⟩ : ∃ k, d.val = k := ⟨_, rfl⟩
      rw [hVV] at k2
      obtain ⟨WA, hWA⟩ : ∃ W, wr.alloc (.cells #[.string KK, .string RR, .string VV, .slice CA CN bc] 34) = W := ⟨_, rfl⟩
      have hxn : WA.heap[wr.heap.size]? = some (.cells #[.string KK, .string RR, .string VV, .slice CA CN bc] 34 (0, 0)) := hWA ▸ heap_alloc_new wr _
      obtain ⟨x0, x1, x2, x3⟩ := four_cellsA hxn
      have HBA : Hid (Below w.heap.size w WA) := Lib.hid (hWA ▸ HB.out.alloc HB.out.size _)
      have HRC : Hid (RowA CA d.com WA) := Lib.hid (hWA ▸ (k4.below ((Below.refl _ wr).alloc (Nat.le_refl _) _)))
      have HWA := Lib.hid hWA
      clear hd hpa hfd hCN hKK hRR hVV hWA hxn k4 k5 k6
      go_wp2_with (first
        | (rw [HWA.out])
        | (go_at_call 13; (with_reducible refine (begins1_any KK 35 _ hks).mono ?_)))
      rintro e w9 ⟨⟨b9, rfl, h9⟩, rfl⟩
      dsimp only
      have HG1 := Lib.hid h9
      clear h9
      cases b9 with
      | true =>
        clear HG1
        go_wp2
        go_ret
        exact ⟨boolP_no _, HBA.out⟩
      | false =>
      have HG1t := Lib.hid (HG1.out rfl)
      clear HG1
      go_wp2_with (go_at_call 13; (with_reducible refine (begins1_any KK 33 _ hks).mono ?_))
      rintro e w9 ⟨⟨b9, rfl, h9⟩, rfl⟩
      dsimp only
      have HG2 := Lib.hid h9
      clear h9
      cases b9 with
      | true =>
        clear HG2
        go_wp2
        go_ret
        exact ⟨boolP_no _, HBA.out⟩
      | false =>
      have HG2t := Lib.hid (HG2.out rfl)
      clear HG2
      have HNC : Hid (NoC d) := Lib.hid (fun y r h => by rw [HKK.out] at h; exact ⟨HG1t.out y r h, HG2t.out y r h⟩)
      go_wp2_with (go_at_call 49; (with_reducible refine (plainP_any KK _ (by omega)).mono ?_))
      rintro e w9 ⟨⟨b9, rfl, h9⟩, rfl⟩
      dsimp only
      have HA1 := Lib.hid h9
      clear h9
      cases b9 with
      | false =>
        clear HA1
        go_wp2
        go_ret
        exact ⟨boolP_no _, HBA.out⟩
      | true =>
      have HA1t := Lib.hid (HA1.out rfl)
      clear HA1
      go_wp2_with (go_at_call 49; (with_reducible refine (plainP_any RR _ (by omega)).mono ?_))
      rintro e w9 ⟨⟨b9, rfl, h9⟩, rfl⟩
      dsimp only
      have HA2 := Lib.hid h9
      clear h9
      cases b9 with
      | false =>
        clear HA2
        go_wp2
        go_ret
        exact ⟨boolP_no _, HBA.out⟩
      | true =>
      have HA2t := Lib.hid (HA2.out rfl)
      clear HA2
      go_wp2
      go_loopg [41] CN (fun gh kv wr3 => ∃ k : Nat, kv = .int .i64 (k : Int) ∧ k ≤ CN ∧ gh = CN - k ∧ Hid (AscC true (d.com.take k)) ∧ Hid (w9 = wr3))
      case atStart => exact ⟨0, rfl, Nat.zero_le _, rfl, Lib.hid (fun _ x hx => by simp at hx), Lib.hid rfl⟩
      case round =>
        obtain ⟨k, rfl, hkn, rfl, HCK, HWE⟩ := hrel
        obtain rfl := HWE.out
        clear HWE
        by_cases hkl : k < CN
        · have hkz : (k : Int) < (CN : Int) := by omega
          obtain ⟨cj, hcj⟩ : ∃ x, d.com[k]? = some x := ⟨_, List.getElem?_eq_getElem (by have := HCN.out; omega)⟩
          obtain ⟨ab, rfl, hcell⟩ := HRC.out k cj hcj
          have hcs := HFC.out cj (List.mem_of_getElem? hcj)
          have HCJ := Lib.hid hcj
          clear hcj
          go_wp2_with (go_at_call 49; (with_reducible refine (plainP_any cj _ (by omega)).mono ?_))
          rintro e w8 ⟨⟨b8, rfl, h8⟩, rfl⟩
          dsimp only
          have HA3 := Lib.hid h8
          clear h8
          cases b8 with
          | false =>
            clear HA3
            go_wp2
            go_ret
            exact ⟨boolP_no _, HBA.out⟩
          | true =>
          have HA3t := Lib.hid (HA3.out rfl)
          clear HA3
          go_wp2
          go_roundg (CN - (k + 1))
          case measure => omega
          case rel => exact ⟨k + 1, by go_num, by omega, rfl, Lib.hid (fun _ x hx => by
            rw [List.take_add_one, HCJ.out] at hx
            rcases List.mem_append.1 hx with h | h
            · exact HCK.out rfl x h
            · simp at h; subst h; exact HA3t.out), Lib.hid rfl⟩
        · have hkz : ¬ (k : Int) < (CN : Int) := by omega
          obtain rfl : k = CN := by omega
          have hct : d.com.take k = d.com := List.take_of_length_le (Nat.le_of_eq HCN.out)
          rw [hct] at HCK
          go_wp2
          go_roundg (n - (i + 1))
          case measure => omega
          case rel => exact ⟨i + 1, by go_num, by omega, rfl, Lib.hid (back_snoc HL.out HD.out ⟨HNC.out, fun _ => ⟨HKK.out ▸ HA1t.out, HRR.out ▸ HA2t.out, HCK.out rfl⟩⟩), HBA⟩
    · have hiz : ¬ (i : Int) < (n : Int) := by omega
      obtain rfl : i = n := by omega
      have ht := HL.out
      rw [List.take_of_length_le (Nat.le_of_eq HN.out)] at ht
      have HL2 := Lib.hid ht
      clear ht
      go_wp2
      go_ret
      exact ⟨boolP_yes HL2.out, HB.out⟩
end Go.Proofs.YtgmhigjhooihdaaGreatDoor
