/- The walk of laws.listed. -/
import Derived.Test.YtgmhigjhooihdaaGreatDoorSmallG
import Derived.Test.YtgmhigjhooihdaaGreatDoorFitsP
import Derived.Test.YtgmhigjhooihdaaGreatDoorEqPr
import Derived.Test.YtgmhigjhooihdaaGreatDoorGivenA
set_option linter.unusedVariables false
namespace Go.Proofs.YtgmhigjhooihdaaGreatDoor
open Go.RowKit Plain

def sumC (cs : List ByteArray) : Nat := (cs.map fun c => c.size + 1).sum
def totD (d : PropD) : Nat := d.key.size + d.raw.size + 1 + sumC d.com
def totP (l : List PropD) : Nat := (l.map totD).sum
theorem sumC_take (cs : List ByteArray) (j : Nat) (c : ByteArray) (h : cs[j]? = some c) : sumC (cs.take (j + 1)) = sumC (cs.take j) + (c.size + 1) := by
  unfold sumC
  rw [List.take_add_one, h]
  simp
theorem totP_take (l : List PropD) (j : Nat) (d : PropD) (h : l[j]? = some d) : totP (l.take (j + 1)) = totP (l.take j) + totD d := by
  unfold totP
  rw [List.take_add_one, h]
  simp
/-- what 'listed' has seen -/
structure LST (nt : Bool) (l : List PropD) : Prop where
  ok : ∀ d ∈ l, OKp d
  nd : (l.map (·.key)).Nodup
  nc : nt = true ∨ ∀ d ∈ l, d.com = []
theorem LST.nil (nt : Bool) : LST nt [] := ⟨fun d hd => (by cases hd), (by simp), .inr (fun d hd => (by cases hd))⟩
theorem LST.snoc {nt : Bool} {l : List PropD} {i : Nat} {d : PropD} (h : LST nt (l.take i)) (hd : l[i]? = some d) (h1 : OKp d) (h2 : ∀ x ∈ l.take i, x.key ≠ d.key) (h3 : nt = true ∨ d.com = []) : LST nt (l.take (i + 1)) := by
  rw [List.take_add_one, hd]
  refine ⟨fun x hx => ?_, ?_, ?_⟩
  · rcases List.mem_append.1 hx with h9 | h9
    · exact h.ok x h9
    · simp at h9; subst h9; exact h1
  · rw [List.map_append, List.nodup_append]
    refine ⟨h.nd, by simp, ?_⟩
    intro a ha b hb e
    obtain ⟨x, hx, rfl⟩ := List.mem_map.1 ha
    simp at hb
    subst hb
    exact h2 x hx e
  · rcases h3 with h3 | h3
    · exact .inl h3
    · rcases h.nc with h4 | h4
      · exact .inl h4
      · refine .inr (fun x hx => ?_)
        rcases List.mem_append.1 hx with h9 | h9
        · exact h4 x h9
        · simp at h9; subst h9; exact h3
theorem oks_of {s : ByteArray} (h : vld s = true) (h2 : ∀ R ∈ rn s, smR R = true) : OKs s := ⟨(Bool.and_eq_true_iff.1 h).2, h2⟩
theorem vld_size {s : ByteArray} (h : vld s = true) : s.size ≤ 4096 := of_decide_eq_true (Bool.and_eq_true_iff.1 h).1
def CMok (c : ByteArray) : Prop := OKs c ∧ c.size ≠ 0 ∧ (∀ y r, c.data.toList = y :: r → y ≠ 32 ∧ y ≠ 9 ∧ y ≠ 12) ∧ ∀ y ∈ c.data.toList, 32 ≤ y.toNat
def ListPost (nt : Bool) (l : List PropD) (w : World) (e : Ending) (w' : World) : Prop := BoolP (LST nt l ∧ totP l ≤ 1500) e ∧ Below w.heap.size w w'
theorem emp_no {s : ByteArray} (h : s.size ≠ 0) : s.toList.isEmpty = false := by
  rw [ByteArray.toList_eq]
  cases h8 : s.data.toList with
  | nil => exact absurd (by rw [Lib.size_eq, h8]; rfl) h
  | cons a l => rfl
theorem emp_yes {s : ByteArray} (h : s.size = 0) : s.toList.isEmpty = true := by
  rw [ByteArray.toList_eq]
  cases h8 : s.data.toList with
  | nil => rfl
  | cons a l => rw [Lib.size_eq, h8] at h; simp at h
theorem eq_yes {a b : ByteArray} (h : a = b) : (a.toList == b.toList) = true := by rw [h]; simp
theorem eq_no {a b : ByteArray} (h : a ≠ b) : (a.toList == b.toList) = false := by
  rw [beq_eq_false_iff_ne]
  intro e
  rw [ByteArray.toList_eq, ByteArray.toList_eq] at e
  exact h (ByteArray.ext (Array.toList_inj.1 e))
set_option maxHeartbeats 16000000 in
set_option maxRecDepth 100000 in
theorem listedF_any (A : Option Addr) (n c : Nat) (l : List PropD) (w : World) (hr : PrA A l w) (hn : l.length = n) (hnc : n ≤ c) (hln : n ≤ 8589934592) (hf : ∀ d ∈ l, FitP d) (hT : Tabs w) :
    Calls Tryz.prog 25 #[.slice A n c, .bool false] w (ListPost false l w) := by
  unfold ListPost
  have HR := Lib.hid hr
  have HN := Lib.hid hn
  have HF := Lib.hid hf
  have HT := Lib.hid hT
  clear hr hn hf hT
  go_enter Tryz.func25, Tryz.ntmps25
  go_wp2
  go_loopg [15, 5] n (fun gh iv nv wr => ∃ i N : Nat, iv = .int .i64 (i : Int) ∧ i ≤ n ∧ gh = n - i ∧ nv = .int .i64 (N : Int) ∧ N ≤ 8200 * i ∧ Hid (LST false (l.take i)) ∧ Hid (N = totP (l.take i)) ∧ Hid (Below w.heap.size w wr))
  case atStart => exact ⟨0, 0, rfl, Nat.zero_le _, rfl, rfl, Nat.zero_le _, Lib.hid (LST.nil _), Lib.hid rfl, Lib.hid (Below.refl _ _)⟩
  case round =>
    obtain ⟨i, N, rfl, hin, rfl, rfl, hNb, HL, HS, HB⟩ := hrel
    by_cases hlt : i < n
    · have hiz : (i : Int) < (n : Int) := by omega
      obtain ⟨d, hd⟩ : ∃ x, l[i]? = some x := ⟨_, List.getElem?_eq_getElem (by have := HN.out; omega)⟩
      obtain ⟨ad, rfl, hpa⟩ := (HR.out.below HB.out) i d hd
      obtain ⟨q, hq, k0, k1, k2, CA, bc, k3, k4, k5, k6⟩ := hpa.cells
      have HD := Lib.hid hd
      have hfd := HF.out d (List.mem_of_getElem? hd)
      have HFC := Lib.hid hfd.2.2.2.2
      obtain ⟨CN, hCN⟩ : ∃ m, d.com.length = m := ⟨_, rfl⟩
      have HCN := Lib.hid hCN
      rw [hCN] at k3
      obtain ⟨KK, hKK⟩ : ∃ k, d.key = k := ⟨_, rfl⟩
      obtain ⟨RR, hRR⟩ : ∃ k, d.raw = k := ⟨_, rfl⟩
      have HKK := Lib.hid hKK
      have HRR := Lib.hid hRR
      have hks : KK.size ≤ 2147483647 := hKK ▸ hfd.1
      have hrs : RR.size ≤ 2147483647 := hRR ▸ hfd.2.1
      rw [hKK] at k0
      rw [hRR] at k1
      obtain ⟨VV, hVV⟩ : ∃ k, d.val = k := ⟨_, rfl⟩
      rw [hVV] at k2
      obtain ⟨WA, hWA⟩ : ∃ W, wr.alloc (.cells #[.string KK, .string RR, .string VV, .slice CA CN bc] 34) = W := ⟨_, rfl⟩
      have hxn : WA.heap[wr.heap.size]? = some (.cells #[.string KK, .string RR, .string VV, .slice CA CN bc] 34 (0, 0)) := hWA ▸ heap_alloc_new wr _
      have HXC : Hid (∀ y, Below WA.heap.size WA y → y.cell? ⟨wr.heap.size, 0, none⟩ = some (.string KK) ∧ y.cell? ⟨wr.heap.size, 1, none⟩ = some (.string RR) ∧ y.cell? ⟨wr.heap.size, 3, none⟩ = some (.slice CA CN bc)) := Lib.hid (fun y hy => by
        obtain ⟨z0, z1, _, z3⟩ := four_cellsA ((hy.block _ (lt_of_block hxn)).trans hxn)
        exact ⟨z0, z1, z3⟩)
      have HO : Hid (∀ y o, Below WA.heap.size WA y → (y.alloc o).cell? ⟨wr.heap.size, 0, none⟩ = some (.string KK)) := Lib.hid (fun y o hy => (HXC.out _ (hy.alloc hy.size o)).1)
      have hbA : Below w.heap.size w WA := hWA ▸ HB.out.alloc HB.out.size _
      have HBW : Hid (∀ y, Below WA.heap.size WA y → Below w.heap.size w y) := Lib.hid (fun y hy => bthen hbA hy)
      have HVA : Hid (∀ (s : ByteArray) y, s.size ≤ 2147483647 → Below WA.heap.size WA y → Calls Tryz.prog 10 #[.string s] y fun e w' => e = .returned (.bool (vld s)) ∧ Below WA.heap.size WA w') := Lib.hid (fun s y hs hy => (valid_any s y hs (HT.out.below (HBW.out y hy))).mono (by rintro e w' ⟨rfl, hb⟩; exact ⟨rfl, bthen hy hb⟩))
      have HSA : Hid (∀ (s : ByteArray) y, s.size ≤ 2147483647 → Below WA.heap.size WA y → Calls Tryz.prog 48 #[.string s] y fun e w' => BoolP (∀ R ∈ rn s, smR R = true) e ∧ Below WA.heap.size WA w') := Lib.hid (fun s y hs hy => (small_any s y hs).mono (by rintro e w' ⟨h, hb⟩; exact ⟨h, bthen hy hb⟩))
      have HRC : Hid (∀ y, Below WA.heap.size WA y → RowA CA d.com y) := Lib.hid (fun y hy => (hWA ▸ (k4.below ((Below.refl _ wr).alloc (Nat.le_refl _) _)) : RowA CA d.com WA).below hy)
      have HWA := Lib.hid hWA
      have HRA : Hid (Below WA.heap.size WA WA) := Lib.hid (Below.refl _ _)
      obtain ⟨vk, hvk⟩ : ∃ b, vld KK = b := ⟨_, rfl⟩
      obtain ⟨vr, hvr⟩ : ∃ b, vld RR = b := ⟨_, rfl⟩
      have HVK := Lib.hid hvk
      have HVR := Lib.hid hvr
      have HC1 : Hid (∀ y, Below WA.heap.size WA y → Calls Tryz.prog 10 #[.string KK] y fun e w' => e = .returned (.bool vk) ∧ Below WA.heap.size WA w') := Lib.hid (fun y hy => hvk ▸ HVA.out KK y hks hy)
      have HC2 : Hid (∀ y, Below WA.heap.size WA y → Calls Tryz.prog 10 #[.string RR] y fun e w' => e = .returned (.bool vr) ∧ Below WA.heap.size WA w') := Lib.hid (fun y hy => hvr ▸ HVA.out RR y hrs hy)
      clear hd hpa hfd hCN hKK hRR hVV hWA hxn hbA k4 k5 k6 hvk hvr
      obtain ⟨u0, u1, u3⟩ := HXC.out WA HRA.out
      by_cases hk0 : KK.size = 0
      · have hke := emp_yes hk0
        clear hk0
        go_wp2_with (first | (rw [HWA.out]))
        go_ret
        exact ⟨boolP_no _, HBW.out _ HRA.out⟩
      have hke := emp_no hk0
      have HK0 := Lib.hid hk0
      clear hk0
      cases vk with
      | false =>
        go_wp2_with (first
          | (rw [HWA.out])
          | (go_at_call 10; (with_reducible refine (HC1.out _ HRA.out).mono ?_); rintro e w2 ⟨rfl, hb2⟩; obtain ⟨x0, x1, x3⟩ := HXC.out w2 hb2; have HB2 := Lib.hid hb2; clear hb2; dsimp only))
        go_ret
        exact ⟨boolP_no _, HBW.out _ HB2.out⟩
      | true =>
      cases vr with
      | false =>
        go_wp2_with (first
          | (rw [HWA.out])
          | (go_at_call 10; (with_reducible refine (HC1.out _ HRA.out).mono ?_); rintro e w2 ⟨rfl, hb2⟩; obtain ⟨x0, x1, x3⟩ := HXC.out w2 hb2; have HB2 := Lib.hid hb2; clear hb2; dsimp only)
          | (go_at_call 10; (with_reducible refine (HC2.out _ HB2.out).mono ?_); rintro e w3 ⟨rfl, hb3⟩; obtain ⟨y0, y1, y3⟩ := HXC.out w3 hb3; have HB3 := Lib.hid hb3; clear hb3; dsimp only))
        go_ret
        exact ⟨boolP_no _, HBW.out _ HB3.out⟩
      | true =>
      have hk4 := vld_size HVK.out
      have hr4 := vld_size HVR.out
      go_wp2_with (first
        | (rw [HWA.out])
        | (go_at_call 10; (with_reducible refine (HC1.out _ HRA.out).mono ?_); rintro e w2 ⟨rfl, hb2⟩; obtain ⟨x0, x1, x3⟩ := HXC.out w2 hb2; have HB2 := Lib.hid hb2; clear hb2; dsimp only)
        | (go_at_call 10; (with_reducible refine (HC2.out _ HB2.out).mono ?_); rintro e w3 ⟨rfl, hb3⟩; obtain ⟨y0, y1, y3⟩ := HXC.out w3 hb3; have HB3 := Lib.hid hb3; clear hb3; dsimp only)
        | (go_at_call 48; (with_reducible refine (HSA.out KK _ hks HB3.out).mono ?_)))
      rintro e w4 ⟨⟨b4, rfl, hs4⟩, hb4⟩
      dsimp only
      obtain ⟨x0, x1, x3⟩ := HXC.out w4 hb4
      have HB4 := Lib.hid hb4
      have HS4 := Lib.hid hs4
      clear hs4 hb4
      cases b4 with
      | false =>
        clear HS4
        go_wp2
        go_ret
        exact ⟨boolP_no _, HBW.out _ HB4.out⟩
      | true =>
      have HS4t := Lib.hid (HS4.out rfl)
      clear HS4
      go_wp2_with (go_at_call 48; (with_reducible refine (HSA.out RR _ hrs HB4.out).mono ?_))
      rintro e w5 ⟨⟨b5, rfl, hs5⟩, hb5⟩
      dsimp only
      obtain ⟨z0, z1, z3⟩ := HXC.out w5 hb5
      have HB5 := Lib.hid hb5
      have HS5 := Lib.hid hs5
      clear hs5 hb5 x0 x1 x3
      cases b5 with
      | false =>
        clear HS5
        go_wp2
        go_ret
        exact ⟨boolP_no _, HBW.out _ HB5.out⟩
      | true =>
      have HS5t := Lib.hid (HS5.out rfl)
      clear HS5
      go_wp2
      go_loopg [51] i (fun gh jv wr2 => ∃ j : Nat, jv = .int .i64 (j : Int) ∧ j ≤ i ∧ gh = i - j ∧ Hid (∀ x ∈ l.take j, x.key ≠ d.key) ∧ Hid (Below WA.heap.size WA wr2))
      case atStart => exact ⟨0, rfl, Nat.zero_le _, rfl, Lib.hid (fun x hx => by simp at hx), HB5⟩
      case round =>
        obtain ⟨j, rfl, hji, rfl, HJ, HB6⟩ := hrel
        by_cases hjl : j < i
        · have hjz : (j : Int) < (i : Int) := by omega
          obtain ⟨d2, hd2⟩ : ∃ x, l[j]? = some x := ⟨_, List.getElem?_eq_getElem (by have := HN.out; omega)⟩
          obtain ⟨ad2, had, hpa2⟩ := (HR.out.below (HBW.out _ HB6.out)) j d2 hd2
          injection had with had
          subst had
          obtain ⟨q2, hq2, g0, g1, g2, CA2, bc2, g3, _, _, _⟩ := hpa2.cells
          obtain ⟨t0, t1, t3⟩ := HXC.out _ HB6.out
          have HD2 := Lib.hid hd2
          obtain ⟨K2, hK2⟩ : ∃ k, d2.key = k := ⟨_, rfl⟩
          have HK2 := Lib.hid hK2
          rw [hK2] at g0
          have HB7 : Hid (∀ o, Below WA.heap.size WA (wr.alloc o)) := Lib.hid (fun o => HB6.out.alloc HB6.out.size o)
          have ho := fun o => HO.out _ o HB6.out
          clear hd2 hpa2 hK2 t0 t1 t3
          by_cases heq : K2 = KK
          · have hez := eq_yes heq
            clear heq
            go_wp2
            go_ret
            exact ⟨boolP_no _, HBW.out _ (HB7.out _)⟩
          · have hez := eq_no heq
            have HEQ := Lib.hid heq
            clear heq
            go_wp2
            go_roundg (i - (j + 1))
            case measure => omega
            case rel => exact ⟨j + 1, by go_num, by omega, rfl, Lib.hid (fun x hx => by
              rw [List.take_add_one, HD2.out] at hx
              rcases List.mem_append.1 hx with h | h
              · exact HJ.out x h
              · simp at h; subst h; rw [HK2.out, HKK.out]; exact HEQ.out), HB7.out _⟩
        · have hjz : ¬ (j : Int) < (i : Int) := by omega
          obtain rfl : j = i := by omega
          obtain ⟨t0, t1, t3⟩ := HXC.out _ HB6.out
          have HOKk : Hid (OKs d.key) := Lib.hid (HKK.out ▸ oks_of HVK.out HS4t.out)
          have HOKr : Hid (OKs d.raw) := Lib.hid (HRR.out ▸ oks_of HVR.out HS5t.out)
          have HTT := Lib.hid (totP_take l j d HD.out)
          have HTD : Hid (totD d = KK.size + RR.size + 1 + sumC d.com) := Lib.hid (by unfold totD; rw [HKK.out, HRR.out])
          by_cases hc0 : CN = 0
          · have hcom : d.com = [] := List.eq_nil_of_length_eq_zero (by rw [HCN.out]; exact hc0)
            have HOKP : Hid (OKp d) := Lib.hid ⟨by rw [HKK.out]; exact HK0.out, HOKk.out, HOKr.out, fun c hc => by rw [hcom] at hc; cases hc⟩
            have HCM := Lib.hid hcom
            have hct : sumC d.com = 0 := by rw [hcom]; rfl
            have HCT := Lib.hid hct
            subst hc0
            clear hcom hct
            go_wp2
            refine wp_loop_rounds 1 ?_
            rw [rounds_succ]
            go_wp2
            go_roundg (n - (j + 1))
            case measure => omega
            case rel => exact ⟨j + 1, N + (KK.size + RR.size + 1), by go_num, by omega, rfl, by go_num, by omega, Lib.hid (HL.out.snoc HD.out HOKP.out HJ.out (.inr HCM.out)), Lib.hid (by rw [HTT.out, HTD.out, HCT.out, ← HS.out]), Lib.hid (HBW.out _ HB6.out)⟩
          · have hcz : (0 : Int) < (CN : Int) := by omega
            obtain ⟨c0, hc1⟩ : ∃ y, d.com[0]? = some y := ⟨_, List.getElem?_eq_getElem (by rw [HCN.out]; omega)⟩
            obtain ⟨ab, rfl, hcell⟩ := HRC.out _ HB6.out 0 c0 hc1
            have hcell2 : wr.cell? ab = some (.string c0) := hcell
            clear hc0 hc1
            go_wp2
            refine wp_loop_rounds 2 ?_
            rw [rounds_succ]
            go_wp2
            go_ret
            exact ⟨boolP_no _, HBW.out _ HB6.out⟩
    · have hiz : ¬ (i : Int) < (n : Int) := by omega
      obtain rfl : i = n := by omega
      have ht := HL.out
      have hs := HS.out
      rw [List.take_of_length_le (Nat.le_of_eq HN.out)] at ht hs
      have HL2 := Lib.hid ht
      have HS2 := Lib.hid hs
      clear ht hs
      by_cases hle : N ≤ 1500
      · have hlz : (N : Int) ≤ 1500 := by omega
        have HLE := Lib.hid hle
        clear hle
        go_wp2
        go_ret
        exact ⟨boolP_yes ⟨HL2.out, by rw [← HS2.out]; exact HLE.out⟩, HB.out⟩
      · have hlz : ¬ (N : Int) ≤ 1500 := by omega
        clear hle
        go_wp2
        go_ret
        exact ⟨boolP_no _, HB.out⟩
set_option maxHeartbeats 16000000 in
set_option maxRecDepth 100000 in
theorem listedT_any (A : Option Addr) (n c : Nat) (l : List PropD) (w : World) (hr : PrA A l w) (hn : l.length = n) (hnc : n ≤ c) (hln : n ≤ 2097152) (hf : ∀ d ∈ l, FitP d) (hcm : ∀ d ∈ l, d.com.length ≤ 2097152) (hT : Tabs w) :
    Calls Tryz.prog 25 #[.slice A n c, .bool true] w (ListPost true l w) := by
  unfold ListPost
  have HR := Lib.hid hr
  have HN := Lib.hid hn
  have HF := Lib.hid hf
  have HT := Lib.hid hT
  have HCB := Lib.hid hcm
  clear hr hn hf hT hcm
  go_enter Tryz.func25, Tryz.ntmps25
  go_wp2
  go_loopg [15, 5] n (fun gh iv nv wr => ∃ i N : Nat, iv = .int .i64 (i : Int) ∧ i ≤ n ∧ gh = n - i ∧ nv = .int .i64 (N : Int) ∧ N ≤ 8600000000 * i ∧ Hid (LST true (l.take i)) ∧ Hid (N = totP (l.take i)) ∧ Hid (Below w.heap.size w wr))
  case atStart => exact ⟨0, 0, rfl, Nat.zero_le _, rfl, rfl, Nat.zero_le _, Lib.hid (LST.nil _), Lib.hid rfl, Lib.hid (Below.refl _ _)⟩
  case round =>
    obtain ⟨i, N, rfl, hin, rfl, rfl, hNb, HL, HS, HB⟩ := hrel
    by_cases hlt : i < n
    · have hiz : (i : Int) < (n : Int) := by omega
      obtain ⟨d, hd⟩ : ∃ x, l[i]? = some x := ⟨_, List.getElem?_eq_getElem (by have := HN.out; omega)⟩
      obtain ⟨ad, rfl, hpa⟩ := (HR.out.below HB.out) i d hd
      obtain ⟨q, hq, k0, k1, k2, CA, bc, k3, k4, k5, k6⟩ := hpa.cells
      have HD := Lib.hid hd
      have hfd := HF.out d (List.mem_of_getElem? hd)
      have HFC := Lib.hid hfd.2.2.2.2
      obtain ⟨CN, hCN⟩ : ∃ m, d.com.length = m := ⟨_, rfl⟩
      have hcnb : CN ≤ 2097152 := hCN ▸ HCB.out d (List.mem_of_getElem? hd)
      have HCN := Lib.hid hCN
      rw [hCN] at k3
      obtain ⟨KK, hKK⟩ : ∃ k, d.key = k := ⟨_, rfl⟩
      obtain ⟨RR, hRR⟩ : ∃ k, d.raw = k := ⟨_, rfl⟩
      have HKK := Lib.hid hKK
      have HRR := Lib.hid hRR
      have hks : KK.size ≤ 2147483647 := hKK ▸ hfd.1
      have hrs : RR.size ≤ 2147483647 := hRR ▸ hfd.2.1
      rw [hKK] at k0
      rw [hRR] at k1
      obtain ⟨VV, hVV⟩ : ∃ k, d.val = k := ⟨_, rfl⟩
      rw [hVV] at k2
      obtain ⟨WA, hWA⟩ : ∃ W, wr.alloc (.cells #[.string KK, .string RR, .string VV, .slice CA CN bc] 34) = W := ⟨_, rfl⟩
      have hxn : WA.heap[wr.heap.size]? = some (.cells #[.string KK, .string RR, .string VV, .slice CA CN bc] 34 (0, 0)) := hWA ▸ heap_alloc_new wr _
      have HXC : Hid (∀ y, Below WA.heap.size WA y → y.cell? ⟨wr.heap.size, 0, none⟩ = some (.string KK) ∧ y.cell? ⟨wr.heap.size, 1, none⟩ = some (.string RR) ∧ y.cell? ⟨wr.heap.size, 3, none⟩ = some (.slice CA CN bc)) := Lib.hid (fun y hy => by
        obtain ⟨z0, z1, _, z3⟩ := four_cellsA ((hy.block _ (lt_of_block hxn)).trans hxn)
        exact ⟨z0, z1, z3⟩)
      have HO : Hid (∀ y o, Below WA.heap.size WA y → (y.alloc o).cell? ⟨wr.heap.size, 0, none⟩ = some (.string KK)) := Lib.hid (fun y o hy => (HXC.out _ (hy.alloc hy.size o)).1)
      have hbA : Below w.heap.size w WA := hWA ▸ HB.out.alloc HB.out.size _
      have HBW : Hid (∀ y, Below WA.heap.size WA y → Below w.heap.size w y) := Lib.hid (fun y hy => bthen hbA hy)
      have HVA : Hid (∀ (s : ByteArray) y, s.size ≤ 2147483647 → Below WA.heap.size WA y → Calls Tryz.prog 10 #[.string s] y fun e w' => e = .returned (.bool (vld s)) ∧ Below WA.heap.size WA w') := Lib.hid (fun s y hs hy => (valid_any s y hs (HT.out.below (HBW.out y hy))).mono (by rintro e w' ⟨rfl, hb⟩; exact ⟨rfl, bthen hy hb⟩))
      have HSA : Hid (∀ (s : ByteArray) y, s.size ≤ 2147483647 → Below WA.heap.size WA y → Calls Tryz.prog 48 #[.string s] y fun e w' => BoolP (∀ R ∈ rn s, smR R = true) e ∧ Below WA.heap.size WA w') := Lib.hid (fun s y hs hy => (small_any s y hs).mono (by rintro e w' ⟨h, hb⟩; exact ⟨h, bthen hy hb⟩))
      have HRC : Hid (∀ y, Below WA.heap.size WA y → RowA CA d.com y) := Lib.hid (fun y hy => (hWA ▸ (k4.below ((Below.refl _ wr).alloc (Nat.le_refl _) _)) : RowA CA d.com WA).below hy)
      have HWA := Lib.hid hWA
      have HRA : Hid (Below WA.heap.size WA WA) := Lib.hid (Below.refl _ _)
      obtain ⟨vk, hvk⟩ : ∃ b, vld KK = b := ⟨_, rfl⟩
      obtain ⟨vr, hvr⟩ : ∃ b, vld RR = b := ⟨_, rfl⟩
      have HVK := Lib.hid hvk
      have HVR := Lib.hid hvr
      have HC1 : Hid (∀ y, Below WA.heap.size WA y → Calls Tryz.prog 10 #[.string KK] y fun e w' => e = .returned (.bool vk) ∧ Below WA.heap.size WA w') := Lib.hid (fun y hy => hvk ▸ HVA.out KK y hks hy)
      have HC2 : Hid (∀ y, Below WA.heap.size WA y → Calls Tryz.prog 10 #[.string RR] y fun e w' => e = .returned (.bool vr) ∧ Below WA.heap.size WA w') := Lib.hid (fun y hy => hvr ▸ HVA.out RR y hrs hy)
      clear hd hpa hfd hCN hKK hRR hVV hWA hxn hbA k4 k5 k6 hvk hvr
      obtain ⟨u0, u1, u3⟩ := HXC.out WA HRA.out
      by_cases hk0 : KK.size = 0
      · have hke := emp_yes hk0
        clear hk0
        go_wp2_with (first | (rw [HWA.out]))
        go_ret
        exact ⟨boolP_no _, HBW.out _ HRA.out⟩
      have hke := emp_no hk0
      have HK0 := Lib.hid hk0
      clear hk0
      cases vk with
      | false =>
        go_wp2_with (first
          | (rw [HWA.out])
          | (go_at_call 10; (with_reducible refine (HC1.out _ HRA.out).mono ?_); rintro e w2 ⟨rfl, hb2⟩; obtain ⟨x0, x1, x3⟩ := HXC.out w2 hb2; have HB2 := Lib.hid hb2; clear hb2; dsimp only))
        go_ret
        exact ⟨boolP_no _, HBW.out _ HB2.out⟩
      | true =>
      cases vr with
      | false =>
        go_wp2_with (first
          | (rw [HWA.out])
          | (go_at_call 10; (with_reducible refine (HC1.out _ HRA.out).mono ?_); rintro e w2 ⟨rfl, hb2⟩; obtain ⟨x0, x1, x3⟩ := HXC.out w2 hb2; have HB2 := Lib.hid hb2; clear hb2; dsimp only)
          | (go_at_call 10; (with_reducible refine (HC2.out _ HB2.out).mono ?_); rintro e w3 ⟨rfl, hb3⟩; obtain ⟨y0, y1, y3⟩ := HXC.out w3 hb3; have HB3 := Lib.hid hb3; clear hb3; dsimp only))
        go_ret
        exact ⟨boolP_no _, HBW.out _ HB3.out⟩
      | true =>
      have hk4 := vld_size HVK.out
      have hr4 := vld_size HVR.out
      go_wp2_with (first
        | (rw [HWA.out])
        | (go_at_call 10; (with_reducible refine (HC1.out _ HRA.out).mono ?_); rintro e w2 ⟨rfl, hb2⟩; obtain ⟨x0, x1, x3⟩ := HXC.out w2 hb2; have HB2 := Lib.hid hb2; clear hb2; dsimp only)
        | (go_at_call 10; (with_reducible refine (HC2.out _ HB2.out).mono ?_); rintro e w3 ⟨rfl, hb3⟩; obtain ⟨y0, y1, y3⟩ := HXC.out w3 hb3; have HB3 := Lib.hid hb3; clear hb3; dsimp only)
        | (go_at_call 48; (with_reducible refine (HSA.out KK _ hks HB3.out).mono ?_)))
      rintro e w4 ⟨⟨b4, rfl, hs4⟩, hb4⟩
      dsimp only
      obtain ⟨x0, x1, x3⟩ := HXC.out w4 hb4
      have HB4 := Lib.hid hb4
      have HS4 := Lib.hid hs4
      clear hs4 hb4
      cases b4 with
      | false =>
        clear HS4
        go_wp2
        go_ret
        exact ⟨boolP_no _, HBW.out _ HB4.out⟩
      | true =>
      have HS4t := Lib.hid (HS4.out rfl)
      clear HS4
      go_wp2_with (go_at_call 48; (with_reducible refine (HSA.out RR _ hrs HB4.out).mono ?_))
      rintro e w5 ⟨⟨b5, rfl, hs5⟩, hb5⟩
      dsimp only
      obtain ⟨z0, z1, z3⟩ := HXC.out w5 hb5
      have HB5 := Lib.hid hb5
      have HS5 := Lib.hid hs5
      clear hs5 hb5 x0 x1 x3
      cases b5 with
      | false =>
        clear HS5
        go_wp2
        go_ret
        exact ⟨boolP_no _, HBW.out _ HB5.out⟩
      | true =>
      have HS5t := Lib.hid (HS5.out rfl)
      clear HS5
      go_wp2
      go_loopg [51] i (fun gh jv wr2 => ∃ j : Nat, jv = .int .i64 (j : Int) ∧ j ≤ i ∧ gh = i - j ∧ Hid (∀ x ∈ l.take j, x.key ≠ d.key) ∧ Hid (Below WA.heap.size WA wr2))
      case atStart => exact ⟨0, rfl, Nat.zero_le _, rfl, Lib.hid (fun x hx => by simp at hx), HB5⟩
      case round =>
        obtain ⟨j, rfl, hji, rfl, HJ, HB6⟩ := hrel
        by_cases hjl : j < i
        · have hjz : (j : Int) < (i : Int) := by omega
          obtain ⟨d2, hd2⟩ : ∃ x, l[j]? = some x := ⟨_, List.getElem?_eq_getElem (by have := HN.out; omega)⟩
          obtain ⟨ad2, had, hpa2⟩ := (HR.out.below (HBW.out _ HB6.out)) j d2 hd2
          injection had with had
          subst had
          obtain ⟨q2, hq2, g0, g1, g2, CA2, bc2, g3, _, _, _⟩ := hpa2.cells
          obtain ⟨t0, t1, t3⟩ := HXC.out _ HB6.out
          have HD2 := Lib.hid hd2
          obtain ⟨K2, hK2⟩ : ∃ k, d2.key = k := ⟨_, rfl⟩
          have HK2 := Lib.hid hK2
          rw [hK2] at g0
          have HB7 : Hid (∀ o, Below WA.heap.size WA (wr.alloc o)) := Lib.hid (fun o => HB6.out.alloc HB6.out.size o)
          have ho := fun o => HO.out _ o HB6.out
          clear hd2 hpa2 hK2 t0 t1 t3
          by_cases heq : K2 = KK
          · have hez := eq_yes heq
            clear heq
            go_wp2
            go_ret
            exact ⟨boolP_no _, HBW.out _ (HB7.out _)⟩
          · have hez := eq_no heq
            have HEQ := Lib.hid heq
            clear heq
            go_wp2
            go_roundg (i - (j + 1))
            case measure => omega
            case rel => exact ⟨j + 1, by go_num, by omega, rfl, Lib.hid (fun x hx => by
              rw [List.take_add_one, HD2.out] at hx
              rcases List.mem_append.1 hx with h | h
              · exact HJ.out x h
              · simp at h; subst h; rw [HK2.out, HKK.out]; exact HEQ.out), HB7.out _⟩
        · have hjz : ¬ (j : Int) < (i : Int) := by omega
          obtain rfl : j = i := by omega
          obtain ⟨t0, t1, t3⟩ := HXC.out _ HB6.out
          have HOKk : Hid (OKs d.key) := Lib.hid (HKK.out ▸ oks_of HVK.out HS4t.out)
          have HOKr : Hid (OKs d.raw) := Lib.hid (HRR.out ▸ oks_of HVR.out HS5t.out)
          have HTT := Lib.hid (totP_take l j d HD.out)
          have HTD : Hid (totD d = KK.size + RR.size + 1 + sumC d.com) := Lib.hid (by unfold totD; rw [HKK.out, HRR.out])
          go_wp2
          go_loopg [64, 5] CN (fun gh kv nv wr3 => ∃ k M : Nat, kv = .int .i64 (k : Int) ∧ k ≤ CN ∧ gh = CN - k ∧ nv = .int .i64 (M : Int) ∧ M ≤ 8600000000 * j + 4097 * k ∧ Hid (∀ c ∈ d.com.take k, CMok c) ∧ Hid (M = N + sumC (d.com.take k)) ∧ Hid (Below WA.heap.size WA wr3))
          case atStart => exact ⟨0, N, rfl, Nat.zero_le _, rfl, rfl, by omega, Lib.hid (fun x hx => by simp at hx), Lib.hid rfl, HB6⟩
          case round =>
            obtain ⟨k, M, rfl, hkn, rfl, rfl, hMb, HCK, HMS, HB7⟩ := hrel
            by_cases hkl : k < CN
            · have hkz : (k : Int) < (CN : Int) := by omega
              obtain ⟨cj, hcj⟩ : ∃ x, d.com[k]? = some x := ⟨_, List.getElem?_eq_getElem (by have := HCN.out; omega)⟩
              obtain ⟨ab, rfl, hcell⟩ := HRC.out _ HB7.out k cj hcj
              have hcs := HFC.out cj (List.mem_of_getElem? hcj)
              have HCJ := Lib.hid hcj
              have HSC := Lib.hid (sumC_take d.com k cj hcj)
              obtain ⟨vc, hvc⟩ : ∃ b, vld cj = b := ⟨_, rfl⟩
              have HVC := Lib.hid hvc
              have HC3 : Hid (∀ y, Below WA.heap.size WA y → Calls Tryz.prog 10 #[.string cj] y fun e w' => e = .returned (.bool vc) ∧ Below WA.heap.size WA w') := Lib.hid (fun y hy => hvc ▸ HVA.out cj y hcs hy)
              clear hcj hvc
              cases vc with
              | false =>
                go_wp2_with (first | (go_at_call 10; (with_reducible refine (HC3.out _ HB7.out).mono ?_); rintro e w2 ⟨rfl, hb2⟩; have HB8 := Lib.hid hb2; clear hb2; dsimp only))
                go_ret
                exact ⟨boolP_no _, HBW.out _ HB8.out⟩
              | true =>
              have hc4 := vld_size HVC.out
              go_wp2_with (first
                | (go_at_call 10; (with_reducible refine (HC3.out _ HB7.out).mono ?_); rintro e w2 ⟨rfl, hb2⟩; have HB8 := Lib.hid hb2; clear hb2; dsimp only)
                | (go_at_call 48; (with_reducible refine (HSA.out cj _ hcs HB8.out).mono ?_)))
              rintro e w4 ⟨⟨b4, rfl, hs4⟩, hb4⟩
              dsimp only
              have HB9 := Lib.hid hb4
              have HS6 := Lib.hid hs4
              clear hs4 hb4
              cases b4 with
              | false =>
                clear HS6
                go_wp2
                go_ret
                exact ⟨boolP_no _, HBW.out _ HB9.out⟩
              | true =>
              have HS6t := Lib.hid (HS6.out rfl)
              clear HS6
              by_cases hk0 : cj.size = 0
              · have hke := emp_yes hk0
                clear hk0
                go_wp2
                go_ret
                exact ⟨boolP_no _, HBW.out _ HB9.out⟩
              have hke := emp_no hk0
              have HCJ0 := Lib.hid hk0
              clear hk0
              go_wp2_with (go_at_call 13; (with_reducible refine (begins1_any cj 32 _ hcs).mono ?_))
              rintro e w9 ⟨⟨b9, rfl, h9⟩, rfl⟩
              dsimp only
              have HG1 := Lib.hid h9
              clear h9
              cases b9 with
              | true =>
                clear HG1
                go_wp2
                go_ret
                exact ⟨boolP_no _, HBW.out _ HB9.out⟩
              | false =>
              have HG1t := Lib.hid (HG1.out rfl)
              clear HG1
              go_wp2_with (go_at_call 13; (with_reducible refine (begins1_any cj 9 _ hcs).mono ?_))
              rintro e w9 ⟨⟨b9, rfl, h9⟩, rfl⟩
              dsimp only
              have HG2 := Lib.hid h9
              clear h9
              cases b9 with
              | true =>
                clear HG2
                go_wp2
                go_ret
                exact ⟨boolP_no _, HBW.out _ HB9.out⟩
              | false =>
              have HG2t := Lib.hid (HG2.out rfl)
              clear HG2
              go_wp2_with (go_at_call 13; (with_reducible refine (begins1_any cj 12 _ hcs).mono ?_))
              rintro e w9 ⟨⟨b9, rfl, h9⟩, rfl⟩
              dsimp only
              have HG3 := Lib.hid h9
              clear h9
              cases b9 with
              | true =>
                clear HG3
                go_wp2
                go_ret
                exact ⟨boolP_no _, HBW.out _ HB9.out⟩
              | false =>
              have HG3t := Lib.hid (HG3.out rfl)
              clear HG3
              go_wp2
              go_loopg [12] cj.size (fun gh mv wr4 => ∃ m : Nat, mv = .int .i64 (m : Int) ∧ m ≤ cj.size ∧ gh = cj.size - m ∧ Hid (∀ t y, t < m → cj.data.toList[t]? = some y → 32 ≤ y.toNat) ∧ Hid (Below WA.heap.size WA wr4))
              case atStart => exact ⟨0, rfl, Nat.zero_le _, rfl, Lib.hid (fun t y h => by omega), HB9⟩
              case round =>
                obtain ⟨m, rfl, hmn, rfl, HBY, HB10⟩ := hrel
                by_cases hml : m < cj.size
                · have hmz : (m : Int) < (cj.size : Int) := by omega
                  have HAT := Lib.hid (byte_atP cj m hml)
                  by_cases hc : 32 ≤ (cj[m]'hml).toNat
                  · have hcz : ¬ ((cj[m]'hml).toNat : Int) < 32 := by omega
                    have HCC := Lib.hid hc
                    clear hc
                    go_wp2
                    go_roundg (cj.size - (m + 1))
                    case measure => omega
                    case rel => exact ⟨m + 1, by go_num, by omega, rfl, Lib.hid (fun t y h1 h2 => by
                      by_cases h3 : t < m
                      · exact HBY.out t y h3 h2
                      · obtain rfl : t = m := by omega
                        rw [HAT.out] at h2
                        obtain rfl := Option.some.inj h2
                        exact HCC.out), HB10⟩
                  · have hcz : ((cj[m]'hml).toNat : Int) < 32 := by omega
                    clear hc
                    go_wp2
                    go_ret
                    exact ⟨boolP_no _, HBW.out _ HB10.out⟩
                · have hmz : ¬ (m : Int) < (cj.size : Int) := by omega
                  obtain rfl : m = cj.size := by omega
                  have HOKC : Hid (CMok cj) := Lib.hid ⟨oks_of HVC.out HS6t.out, HCJ0.out, fun y r h => ⟨HG1t.out y r h, HG2t.out y r h, HG3t.out y r h⟩, fun y hy => by
                    obtain ⟨t, ht⟩ := List.getElem?_of_mem hy
                    have := (List.getElem?_eq_some_iff.1 ht).1
                    rw [← Lib.size_eq] at this
                    exact HBY.out t y this ht⟩
                  go_wp2
                  go_roundg (CN - (k + 1))
                  case measure => omega
                  case rel => exact ⟨k + 1, M + (cj.size + 1), by go_num, by omega, rfl, by go_num, by omega, Lib.hid (fun x hx => by
                    rw [List.take_add_one, HCJ.out] at hx
                    rcases List.mem_append.1 hx with h | h
                    · exact HCK.out x h
                    · simp at h; subst h; exact HOKC.out), Lib.hid (by rw [HSC.out, HMS.out]; omega), HB10⟩
            · have hkz : ¬ (k : Int) < (CN : Int) := by omega
              obtain rfl : k = CN := by omega
              obtain ⟨s0, s1, s3⟩ := HXC.out _ HB7.out
              have hct : d.com.take k = d.com := List.take_of_length_le (Nat.le_of_eq HCN.out)
              rw [hct] at HCK HMS
              have HOKP : Hid (OKp d) := Lib.hid ⟨by rw [HKK.out]; exact HK0.out, HOKk.out, HOKr.out, HCK.out⟩
              go_wp2
              go_roundg (n - (j + 1))
              case measure => omega
              case rel => exact ⟨j + 1, M + (KK.size + RR.size + 1), by go_num, by omega, rfl, by go_num, by omega, Lib.hid (HL.out.snoc HD.out HOKP.out HJ.out (.inl rfl)), Lib.hid (by rw [HTT.out, HTD.out, ← HS.out, HMS.out]; omega), Lib.hid (HBW.out _ HB7.out)⟩
    · have hiz : ¬ (i : Int) < (n : Int) := by omega
      obtain rfl : i = n := by omega
      have ht := HL.out
      have hs := HS.out
      rw [List.take_of_length_le (Nat.le_of_eq HN.out)] at ht hs
      have HL2 := Lib.hid ht
      have HS2 := Lib.hid hs
      clear ht hs
      by_cases hle : N ≤ 1500
      · have hlz : (N : Int) ≤ 1500 := by omega
        have HLE := Lib.hid hle
        clear hle
        go_wp2
        go_ret
        exact ⟨boolP_yes ⟨HL2.out, by rw [← HS2.out]; exact HLE.out⟩, HB.out⟩
      · have hlz : ¬ (N : Int) ≤ 1500 := by omega
        clear hle
        go_wp2
        go_ret
        exact ⟨boolP_no _, HB.out⟩
end Go.Proofs.YtgmhigjhooihdaaGreatDoor
