/- laws.zzFits4, laws.zzFits5: properties of bounded size. -/
import Derived.Test.YtgmhigjhooihdaaGreatDoorPropA
import Derived.Test.YtgmhigjhooihdaaGreatDoorBoolP
import Derived.LoopTactic
import Derived.Deep.LoopGhost
set_option linter.unusedVariables false
namespace Go.Proofs.YtgmhigjhooihdaaGreatDoor
open Go.RowKit Plain

/-- a property of bounded size -/
def FitP (d : PropD) : Prop := d.key.size ≤ 2147483647 ∧ d.raw.size ≤ 2147483647 ∧ d.val.size ≤ 2147483647 ∧ d.com.length ≤ 2147483647 ∧ ∀ c ∈ d.com, c.size ≤ 2147483647
theorem fitsR_of {l : List ByteArray} (h : fitsR l = true) : ∀ c ∈ l, c.size ≤ 2147483647 := fun c hc => of_decide_eq_true (List.all_eq_true.1 h c hc)
set_option maxHeartbeats 4000000 in
set_option maxRecDepth 100000 in
theorem fits5_any (k r v : ByteArray) (A : Option Addr) (c : Nat) (com : List ByteArray) (w : World) (hr : RowA A com w) (hc : com.length ≤ 9223372036854775807) :
    Calls Tryz.prog 44 #[.agg #[.string k, .string r, .string v, .slice A com.length c]] w fun e w' => BoolP (FitP ⟨k, r, v, com⟩) e ∧ Below w.heap.size w w' := by
  obtain ⟨m, hm⟩ : ∃ m, com.length = m := ⟨_, rfl⟩
  obtain ⟨fb, hfb⟩ : ∃ b, (decide (m ≤ 2147483647) && fitsR com) = b := ⟨_, rfl⟩
  have HF : Hid (∀ y, Below w.heap.size w y → Calls Tryz.prog 70 #[.slice A m c] y fun e w' => e = .returned (.bool fb) ∧ y = w') := Lib.hid (fun y hy => fits_any A m c com hm y (hr.below hy) (by omega) fb hfb)
  have HFB := Lib.hid hfb
  have HM := Lib.hid hm
  have HBL : Hid (∀ o, Below w.heap.size w (w.alloc o)) := Lib.hid (fun o => (Below.refl _ w).alloc (Nat.le_refl _) o)
  rw [hm]
  clear hr hc hm hfb
  by_cases h1 : 2147483647 < k.size
  · have z1 : (2147483647 : Int) < (k.size : Int) := by omega
    go_enter Tryz.func44, Tryz.ntmps44
    go_wp2
    go_ret
    exact ⟨boolP_no _, HBL.out _⟩
  have z1 : ¬ (2147483647 : Int) < (k.size : Int) := by omega
  by_cases h2 : 2147483647 < r.size
  · have z2 : (2147483647 : Int) < (r.size : Int) := by omega
    go_enter Tryz.func44, Tryz.ntmps44
    go_wp2
    go_ret
    exact ⟨boolP_no _, HBL.out _⟩
  have z2 : ¬ (2147483647 : Int) < (r.size : Int) := by omega
  by_cases h3 : 2147483647 < v.size
  · have z3 : (2147483647 : Int) < (v.size : Int) := by omega
    go_enter Tryz.func44, Tryz.ntmps44
    go_wp2
    go_ret
    exact ⟨boolP_no _, HBL.out _⟩
  have z3 : ¬ (2147483647 : Int) < (v.size : Int) := by omega
  have HH : Hid (k.size ≤ 2147483647 ∧ r.size ≤ 2147483647 ∧ v.size ≤ 2147483647) := Lib.hid ⟨by omega, by omega, by omega⟩
  clear h1 h2 h3
  cases fb with
  | false =>
    go_enter Tryz.func44, Tryz.ntmps44
    go_wp2_with (go_at_call 70; (with_reducible refine (HF.out _ (HBL.out _)).mono ?_); rintro e w1 ⟨rfl, rfl⟩; dsimp only)
    go_ret
    exact ⟨boolP_no _, HBL.out _⟩
  | true =>
    go_enter Tryz.func44, Tryz.ntmps44
    go_wp2_with (go_at_call 70; (with_reducible refine (HF.out _ (HBL.out _)).mono ?_); rintro e w1 ⟨rfl, rfl⟩; dsimp only)
    go_ret
    refine ⟨boolP_yes ?_, HBL.out _⟩
    have h9 := Bool.and_eq_true_iff.1 HFB.out
    exact ⟨HH.out.1, HH.out.2.1, HH.out.2.2, by show com.length ≤ _; rw [HM.out]; exact of_decide_eq_true h9.1, fitsR_of h9.2⟩
set_option maxHeartbeats 4000000 in
set_option maxRecDepth 100000 in
theorem fits4_any (A : Option Addr) (n c : Nat) (l : List PropD) (w : World) (hr : PrA A l w) (hn : l.length = n) (hln : n ≤ 9223372036854775807) :
    Calls Tryz.prog 23 #[.slice A n c] w fun e w' => BoolP (n ≤ 2147483647 ∧ ∀ d ∈ l, FitP d) e ∧ Below w.heap.size w w' := by
  have HR := Lib.hid hr
  have HN := Lib.hid hn
  clear hr hn
  by_cases hbig : 2147483647 < n
  · have hz : (2147483647 : Int) < (n : Int) := by omega
    go_enter Tryz.func23, Tryz.ntmps23
    go_wp2
    go_ret
    exact ⟨boolP_no _, Below.refl _ _⟩
  have hz : ¬ (2147483647 : Int) < (n : Int) := by omega
  go_enter Tryz.func23, Tryz.ntmps23
  go_wp2
  go_loopg [10] n (fun gh iv wr => ∃ i : Nat, iv = .int .i64 (i : Int) ∧ i ≤ n ∧ gh = n - i ∧ Hid (∀ d ∈ l.take i, FitP d) ∧ Hid (Below w.heap.size w wr))
  case atStart => exact ⟨0, rfl, Nat.zero_le _, rfl, Lib.hid (fun d hd => by simp at hd), Lib.hid (Below.refl _ _)⟩
  case round =>
    obtain ⟨i, rfl, hin, rfl, HP, HB⟩ := hrel
    by_cases hlt : i < n
    · have hiz : (i : Int) < (n : Int) := by omega
      obtain ⟨d, hd⟩ : ∃ x, l[i]? = some x := ⟨_, List.getElem?_eq_getElem (by have := HN.out; omega)⟩
      obtain ⟨ad, rfl, hpa⟩ := (HR.out.below HB.out) i d hd
      obtain ⟨q, hq, k0, k1, k2, B, bc, k3, k4, k5, k6⟩ := hpa.cells
      have HD := Lib.hid hd
      obtain ⟨CN, hCN⟩ : ∃ m, d.com.length = m := ⟨_, rfl⟩
      have HF5 : Hid (∀ y, Below wr.heap.size wr y → Calls Tryz.prog 44 #[.agg #[.string d.key, .string d.raw, .string d.val, .slice B CN bc]] y fun e w' => BoolP (FitP d) e ∧ Below y.heap.size y w') := Lib.hid (fun y hy => hCN ▸ fits5_any d.key d.raw d.val B bc d.com y (k4.below hy) k6)
      rw [hCN] at k3
      have HBA : Hid (∀ o, Below wr.heap.size wr (wr.alloc o)) := Lib.hid (fun o => (Below.refl _ wr).alloc (Nat.le_refl _) o)
      have HBB : Hid (∀ o, Below w.heap.size w (wr.alloc o)) := Lib.hid (fun o => bthen HB.out (HBA.out o))
      clear hd hpa hCN k4 k5 k6
      go_wp2_with (go_at_call 44; (with_reducible refine (HF5.out _ (HBA.out _)).mono ?_))
      rintro e w3 ⟨⟨b, rfl, hb⟩, hb3⟩
      dsimp only
      have HB3 : Hid (Below w.heap.size w w3) := Lib.hid (bthen (HBB.out _) hb3)
      have HFB : Hid (b = true → FitP d) := Lib.hid hb
      clear hb hb3
      cases b with
      | false =>
        clear HFB
        go_wp2
        go_ret
        exact ⟨boolP_no _, HB3.out⟩
      | true =>
        have HFT := Lib.hid (HFB.out rfl)
        clear HFB
        go_wp2
        go_roundg (n - (i + 1))
        case measure => omega
        case rel => exact ⟨i + 1, by go_num, by omega, rfl, Lib.hid (fun x hx => by
          rw [List.take_add_one, HD.out] at hx
          rcases List.mem_append.1 hx with h | h
          · exact HP.out x h
          · simp at h; subst h; exact HFT.out), HB3⟩
    · have hiz : ¬ (i : Int) < (n : Int) := by omega
      obtain rfl : i = n := by omega
      go_wp2
      go_ret
      refine ⟨boolP_yes ⟨by omega, ?_⟩, HB.out⟩
      have := HP.out
      rw [List.take_of_length_le (Nat.le_of_eq HN.out)] at this
      exact this
end Go.Proofs.YtgmhigjhooihdaaGreatDoor
