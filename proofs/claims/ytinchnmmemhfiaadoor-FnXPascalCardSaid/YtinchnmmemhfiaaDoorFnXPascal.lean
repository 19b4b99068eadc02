/- The walk of the law FnXPascal. -/
import Derived.Test.YtinchnmmemhfiaaDoorCamelW
import Derived.Test.YtinchnmmemhfiaaDoorSep
import Derived.Test.YtinchnmmemhfiaaDoorLower
set_option linter.unusedVariables false
namespace Go.Proofs.YtinchnmmemhfiaaDoor
open Go.RowKit Plain

def camelS (s : ByteArray) (big : Bool) : ByteArray := match s.data.toList with
  | [] => ⟨#[]⟩
  | c :: t => ⟨(camel (if big then upB c else dnB c) (capB c) t).toArray⟩
def CamOk (s : ByteArray) : Prop := ∃ c t, s.data.toList = c :: t ∧ (∀ b ∈ c :: t, domB b = true) ∧ conB c = false
theorem camelS_of {s : ByteArray} {c : UInt8} {t : List UInt8} (h : s.data.toList = c :: t) (big : Bool) : camelS s big = ⟨(camel (if big then upB c else dnB c) (capB c) t).toArray⟩ := by
  unfold camelS
  rw [h]
theorem toCamel_s (s : ByteArray) (big : Bool) (w : World) (hs : s.size ≤ 2147483647) (h : CamOk s) (hP : PTab w) :
    Calls Tryd.prog 14 #[.string s, .bool big] w fun e w' => e = .returned (.string (camelS s big)) ∧ Below w.heap.size w w' := by
  obtain ⟨c, t, h1, h2, h3⟩ := h
  rw [camelS_of h1]
  exact toCamel_any s c t big w hs h1 h2 h3 hP
theorem iCamel (s : ByteArray) (w : World) (hs : s.size ≤ 2147483647) (h : CamOk s) (hP : PTab w) :
    Calls Tryd.prog 4 #[.string s] w fun e w' => e = .returned (.string (camelS s false)) ∧ Below w.heap.size w w' := by
  have HC := Lib.hid (toCamel_s s false w hs h hP)
  clear h hP
  have HX : Hid (Calls Tryd.prog 10 #[.string s] w fun e w' => e = .returned (.string (camelS s false)) ∧ Below w.heap.size w w') := by
    refine Lib.hid ?_
    go_enter Tryd.func10, Tryd.ntmps10
    go_wp2_with (go_at_call 14; (with_reducible refine HC.out.mono ?_); rintro e w1 ⟨rfl, hb⟩; dsimp only)
    go_ret
    exact ⟨rfl, hb⟩
  go_enter Tryd.func4, Tryd.ntmps4
  go_wp2_with (go_at_call 10; (with_reducible refine HX.out.mono ?_); rintro e w1 ⟨rfl, hb⟩; dsimp only)
  go_ret
  exact ⟨rfl, hb⟩
theorem iPascal (s : ByteArray) (w : World) (hs : s.size ≤ 2147483647) (h : CamOk s) (hP : PTab w) :
    Calls Tryd.prog 5 #[.string s] w fun e w' => e = .returned (.string (camelS s true)) ∧ Below w.heap.size w w' := by
  have HC := Lib.hid (toCamel_s s true w hs h hP)
  clear h hP
  have HX : Hid (Calls Tryd.prog 11 #[.string s] w fun e w' => e = .returned (.string (camelS s true)) ∧ Below w.heap.size w w') := by
    refine Lib.hid ?_
    go_enter Tryd.func11, Tryd.ntmps11
    go_wp2_with (go_at_call 14; (with_reducible refine HC.out.mono ?_); rintro e w1 ⟨rfl, hb⟩; dsimp only)
    go_ret
    exact ⟨rfl, hb⟩
  go_enter Tryd.func5, Tryd.ntmps5
  go_wp2_with (go_at_call 11; (with_reducible refine HX.out.mono ?_); rintro e w1 ⟨rfl, hb⟩; dsimp only)
  go_ret
  exact ⟨rfl, hb⟩
set_option maxHeartbeats 1000000 in
theorem has_no (s : ByteArray) (c : Int) (w : World) (hs : s.size ≤ 140737488355328) (hno : ∀ x ∈ s.data.toList, ((x.toNat : Int) == c) = false) :
    Calls Tryd.prog 9 #[.string s, .int .u8 c] w fun e w' => e = .returned (.bool false) ∧ w' = w := by
  have HN := Lib.hid hno
  clear hno
  go_enter Tryd.func9, Tryd.ntmps9
  go_wp2
  go_loopw [5] (fun iv wr => ∃ (i : Nat), iv = .int .i64 i ∧ i ≤ s.size ∧ wr = w) (fun iv _ => match iv with | .int _ i => s.size - i.toNat | _ => 0)
  case atStart => exact ⟨0, rfl, Nat.zero_le _, rfl⟩
  case round =>
    obtain ⟨i, rfl, his, rfl⟩ := hrel
    by_cases hlt : i < s.size
    · have hz : (i : Int) < (s.size : Int) := by omega
      have hc := HN.out _ (List.mem_of_getElem? (byte_at s i hlt))
      go_wp2
      go_roundw
      case rel => exact ⟨i + 1, by go_num, by omega, trivial⟩
      case measure => show s.size - ((i : Int) + 1).toNat < s.size - (i : Int).toNat; omega
    · have hz : ¬ (i : Int) < (s.size : Int) := by omega
      go_wp2
      go_ret
      exact ⟨rfl, rfl⟩
def gol : ByteArray := ⟨#[71, 79, 76, 65, 78, 71, 95, 73, 83]⟩
theorem gol_ok : CamOk gol := ⟨71, [79, 76, 65, 78, 71, 95, 73, 83], rfl, by decide +kernel, by decide +kernel⟩
theorem gol_a (w : World) (hP : PTab w) : Calls Tryd.prog 4 #[.string ⟨#[71, 79, 76, 65, 78, 71, 95, 73, 83]⟩] w fun e w' => e = .returned (.string ⟨#[103, 111, 108, 97, 110, 103, 73, 115]⟩) ∧ Below w.heap.size w w' := by
  have := iCamel gol w (by decide) gol_ok hP
  rwa [show camelS gol false = ⟨#[103, 111, 108, 97, 110, 103, 73, 115]⟩ by decide +kernel] at this
theorem gol_b (w : World) (hP : PTab w) : Calls Tryd.prog 5 #[.string ⟨#[71, 79, 76, 65, 78, 71, 95, 73, 83]⟩] w fun e w' => e = .returned (.string ⟨#[71, 111, 108, 97, 110, 103, 73, 115]⟩) ∧ Below w.heap.size w w' := by
  have := iPascal gol w (by decide) gol_ok hP
  rwa [show camelS gol true = ⟨#[71, 111, 108, 97, 110, 103, 73, 115]⟩ by decide +kernel] at this
theorem camel_law (s : ByteArray) (h1 : sepaB s = true) (h2 : sgl false s.data.toList = true) : CamOk s ∧ s.size ≤ 4096 ∧ (camelS s true).data.toList.map dnB = (camelS s false).data.toList.map dnB ∧ (∀ x ∈ (camelS s false).data.toList, conB x = false) ∧ (∀ b, (camelS s b).size ≤ s.size) := by
  unfold sepaB at h1
  rw [Bool.and_eq_true] at h1
  obtain ⟨hd, hz⟩ := h1
  have hdom := List.all_eq_true.1 hd
  cases hl : s.data.toList with
  | nil => rw [hl] at h2; cases h2
  | cons c t =>
    rw [hl] at h2 hdom
    have hac : alnB c = true := by
      cases hk : alnB c with
      | true => rfl
      | false => simp [sgl, hk] at h2
    have hs2 : sgl true t = true := by simpa [sgl, hac] using h2
    obtain ⟨k1, k2, k3, -⟩ := aln_cls c hac
    have hsz : s.size = t.length + 1 := by rw [Lib.size_eq, hl]; rfl
    refine ⟨⟨c, t, hl, hdom, k1⟩, of_decide_eq_true hz, ?_, ?_, fun b => ?_⟩
    · rw [camelS_of hl, camelS_of hl]
      simpa using (camel_first c hac (capB c) t).symm
    · rw [camelS_of hl]
      intro x hx
      exact camel_clear t (dnB c) (capB c) (fun y hy => hdom y (List.mem_cons_of_mem _ hy)) (by rw [k3]; exact hs2) x (by simpa using hx)
    · rw [camelS_of hl, Lib.size_eq, hsz]
      simpa using camel_length t _ _

set_option maxHeartbeats 4000000 in
set_option maxRecDepth 100000 in
theorem fnXPascal_walk (s : ByteArray) (w : World) (hs0 : s.size ≤ 140737488351232) (hP : PTab w) :
    Calls Tryd.prog 3 #[.string s] w fun e w' => e = .returned (.bool true) ∧ Below w.heap.size w w' := by
  by_cases hb : 2147483647 < s.size
  · have hbz : (2147483647 : Int) < (s.size : Int) := by omega
    go_enter Tryd.func3, Tryd.ntmps3
    go_wp2
    go_ret
    exact ⟨rfl, Below.refl _ _⟩
  have hbz : ¬ (2147483647 : Int) < (s.size : Int) := by omega
  have HSe := Lib.hid (fun w => sepa_any s w (by omega))
  have HSi := Lib.hid (fun w => single_any s w (by omega))
  cases h1 : sepaB s with
  | false =>
    rw [h1] at HSe
    clear h1
    go_enter Tryd.func3, Tryd.ntmps3
    go_wp2_with (go_at_call 4; (with_reducible refine (gol_a _ hP).mono ?_); rintro e w1 ⟨rfl, hb1⟩; dsimp only)
    have hP1 := hP.below hb1
    go_wp2_with (go_at_call 5; (with_reducible refine (gol_b _ hP1).mono ?_); rintro e w2 ⟨rfl, hb2⟩; dsimp only)
    have hB2 := bthen hb1 hb2
    go_wp2_with (go_at_call 6; (with_reducible refine (HSe.out _).mono ?_); rintro e w9 ⟨rfl, rfl⟩; dsimp only)
    go_ret
    exact ⟨rfl, hB2⟩
  | true =>
    rw [h1] at HSe
    cases h2 : sgl false s.data.toList with
    | false =>
      rw [h2] at HSi
      clear h1 h2
      go_enter Tryd.func3, Tryd.ntmps3
      go_wp2_with (go_at_call 4; (with_reducible refine (gol_a _ hP).mono ?_); rintro e w1 ⟨rfl, hb1⟩; dsimp only)
      have hP1 := hP.below hb1
      go_wp2_with (go_at_call 5; (with_reducible refine (gol_b _ hP1).mono ?_); rintro e w2 ⟨rfl, hb2⟩; dsimp only)
      have hB2 := bthen hb1 hb2
      go_wp2_with (go_at_call 6; (with_reducible refine (HSe.out _).mono ?_); rintro e w9 ⟨rfl, rfl⟩; dsimp only)
      go_wp2_with (go_at_call 7; (with_reducible refine (HSi.out _).mono ?_); rintro e w9 ⟨rfl, rfl⟩; dsimp only)
      go_ret
      exact ⟨rfl, hB2⟩
    | true =>
      rw [h2] at HSi
      obtain ⟨hok, hz, hlo, hcl, hsz⟩ := camel_law s h1 h2
      clear h1 h2
      have HA := Lib.hid (fun w hP => iCamel s w (by omega) hok hP)
      have HBc := Lib.hid (fun w hP => iPascal s w (by omega) hok hP)
      have za := hsz false
      have zb := hsz true
      generalize camelS s false = a at *
      generalize camelS s true = b at *
      clear hok hsz
      have HLa := Lib.hid (fun w => lower_any a w (by omega))
      have HLb := Lib.hid (fun w => hlo ▸ lower_any b w (by omega))
      have H0 := Lib.hid (fun w => has_no a 32 w (by omega) (fun x hx => by have := hcl x hx; unfold conB at this; simp at this ⊢; omega))
      have H1 := Lib.hid (fun w => has_no a 45 w (by omega) (fun x hx => by have := hcl x hx; unfold conB at this; simp at this ⊢; omega))
      have H2 := Lib.hid (fun w => has_no a 95 w (by omega) (fun x hx => by have := hcl x hx; unfold conB at this; simp at this ⊢; omega))
      clear hlo hcl
      generalize List.map dnB a.data.toList = Z at HLa HLb
      go_enter Tryd.func3, Tryd.ntmps3
      go_wp2_with (go_at_call 4; (with_reducible refine (gol_a _ hP).mono ?_); rintro e w1 ⟨rfl, hb1⟩; dsimp only)
      have hP1 := hP.below hb1
      go_wp2_with (go_at_call 5; (with_reducible refine (gol_b _ hP1).mono ?_); rintro e w2 ⟨rfl, hb2⟩; dsimp only)
      have hB2 := bthen hb1 hb2
      have hP2 := hP1.below hb2
      go_wp2_with (go_at_call 6; (with_reducible refine (HSe.out _).mono ?_); rintro e w9 ⟨rfl, rfl⟩; dsimp only)
      go_wp2_with (go_at_call 7; (with_reducible refine (HSi.out _).mono ?_); rintro e w9 ⟨rfl, rfl⟩; dsimp only)
      go_wp2_with (go_at_call 4; (with_reducible refine (HA.out _ hP2).mono ?_); rintro e w3 ⟨rfl, hb3⟩; dsimp only)
      have hB3 := bthen hB2 hb3
      have hP3 := hP2.below hb3
      go_wp2_with (go_at_call 5; (with_reducible refine (HBc.out _ hP3).mono ?_); rintro e w4 ⟨rfl, hb4⟩; dsimp only)
      have hB4 := bthen hB3 hb4
      go_wp2_with (go_at_call 8; (with_reducible refine (HLa.out _).mono ?_); rintro e w5 ⟨rfl, hb5⟩; dsimp only)
      have hB5 := bthen hB4 hb5
      go_wp2_with (go_at_call 8; (with_reducible refine (HLb.out _).mono ?_); rintro e w6 ⟨rfl, hb6⟩; dsimp only)
      have hB6 := bthen hB5 hb6
      go_wp2_with (go_at_call 9; (with_reducible refine (H0.out _).mono ?_); rintro e w9 ⟨rfl, rfl⟩; dsimp only)
      go_wp2_with (go_at_call 9; (with_reducible refine (H1.out _).mono ?_); rintro e w9 ⟨rfl, rfl⟩; dsimp only)
      go_wp2_with (go_at_call 9; (with_reducible refine (H2.out _).mono ?_); rintro e w9 ⟨rfl, rfl⟩; dsimp only)
      go_ret
      exact ⟨rfl, hB6⟩
end Go.Proofs.YtinchnmmemhfiaaDoor
