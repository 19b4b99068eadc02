/- The walk of the closure of shellwords.Parse that ends a word. -/
import Derived.Test.YtcjfcjlendibpaaDoorPMem
import Derived.Deep.CutBlock
set_option linter.unusedVariables false
namespace Go.Proofs.YtcjfcjlendibpaaDoor
open Go.RowKit Plain

theorem conv_b {L : Bl} {s : ByteArray} {m pos : Nat} {a : List (List UInt8)} {ga ca : Nat} {b : List UInt8} {gb cb g : Nat} {tq sub : Bool} {bt : Value} {w : World} (h : PM L s m pos a ga ca b gb cb g tq sub bt w) :
    (convert 56 9 (.slice (some ⟨gb, 0, none⟩) b.length cb)).run Tryd.prog w = .ok (.string ⟨b.toArray⟩) w := by
  refine run_convert_bytes_back w 56 9 5 ⟨gb, 0, none⟩ cb b Tryd.underlying56 Tryd.underlying5 Tryd.underlying9 ?_
  intro j hj
  exact h.oV.cells (g := gb) rfl j _ (by simp [Lib.byteCells, hj])
/-- the end of the closure: the word emptied, three variables set back -/
theorem flA_yes {a : List (List UInt8)} {b : List UInt8} {g : Nat} (h : g = 2 ∨ (g ≠ 0 ∧ b ≠ [])) : flA a b g = a ++ [b] := by
  unfold flA
  rw [if_pos]
  rcases h with h | ⟨h1, h2⟩
  · simp [h]
  · have : b.isEmpty = false := by cases b with | nil => exact absurd rfl h2 | cons x l => rfl
    simp [h1, this]
theorem flA_no {a : List (List UInt8)} {b : List UInt8} {g : Nat} (h : g ≠ 2 ∧ (g = 0 ∨ b = [])) : flA a b g = a := by
  unfold flA
  rw [if_neg]
  rcases h with ⟨h0, h | h⟩
  · simp [h]
  · simp [h, h0]
theorem set_back {L : Bl} {s : ByteArray} {m pos : Nat} {a : List (List UInt8)} {ga ca : Nat} {b : List UInt8} {gb cb g : Nat} {tq sub : Bool} {bt : Value} {w0 w : World} (h : PM L s m pos a ga ca b gb cb g tq sub bt w) (hb : Below L.B w0 w) :
    PM L s m pos a ga ca [] gb cb 0 false false bt ((((w.setCell ⟨L.V, 0, none⟩ (.slice (some ⟨gb, 0, none⟩) 0 cb)).setCell ⟨L.G, 0, none⟩ (.int .i64 0)).setCell ⟨L.T, 0, none⟩ (.bool false)).setCell ⟨L.S, 0, none⟩ (.bool false)) ∧
    Below L.B w0 ((((w.setCell ⟨L.V, 0, none⟩ (.slice (some ⟨gb, 0, none⟩) 0 cb)).setCell ⟨L.G, 0, none⟩ (.int .i64 0)).setCell ⟨L.T, 0, none⟩ (.bool false)).setCell ⟨L.S, 0, none⟩ (.bool false)) :=
  ⟨(((h.empty.setG 0).setT false).setS false), (((hb.setCell L.hV _).setCell L.hG _).setCell L.hT _).setCell L.hS _⟩
set_option maxHeartbeats 1000000 in
set_option maxRecDepth 100000 in
theorem flush_any {L : Bl} {s : ByteArray} {m pos : Nat} {a : List (List UInt8)} {ga ca : Nat} {b : List UInt8} {gb cb g : Nat} {tq sub : Bool} {bt : Value} (w : World) (h : PM L s m pos a ga ca b gb cb g tq sub bt w) (hal : a.length ≤ 4294967296) (hbl : b.length ≤ 1099511627776) :
    Calls Tryd.prog 38 #[.pointer (some ⟨L.G, 0, none⟩), .pointer (some ⟨L.V, 0, none⟩), .pointer (some ⟨L.A, 0, none⟩), .pointer (some ⟨L.T, 0, none⟩), .pointer (some ⟨L.S, 0, none⟩)] w
      fun e w' => e = .returned (.tuple #[]) ∧ (∃ ga' ca', PM L s m pos (flA a b g) ga' ca' [] gb cb 0 false false bt w') ∧ Below L.B w w' := by
  obtain ⟨i0, hi, hz0, hz1, hz2⟩ := info_parts infoStr
  have cG := cell_of_one h.lG
  have cV := cell_of_one h.lV
  have cA := cell_of_one h.lA
  have fG := free_of_one h.lG
  have fV := free_of_one h.lV
  have fA := free_of_one h.lA
  have fT := free_of_one h.lT
  have fS := free_of_one h.lS
  have hcv := conv_b h
  have HPM := Lib.hid h
  have hown := Lib.hid h.oA
  by_cases hc : g = 2 ∨ (g ≠ 0 ∧ b ≠ [])
  · have HF := Lib.hid (flA_yes (a := a) hc)
    have hc2 : g = 2 ∨ ((g : Int) ≠ 2 ∧ (g : Int) ≠ 0 ∧ 0 < b.length) := by
      rcases hc with h | ⟨h1, h2⟩
      · exact .inl h
      · by_cases h3 : g = 2
        · exact .inl h3
        · exact .inr ⟨by omega, by omega, List.length_pos_iff.2 h2⟩
    clear h hc
    rcases hc2 with rfl | ⟨h1, h2, h3⟩
    · go_enter Tryd.func38, Tryd.ntmps38
      go_wp2_with (at_builtin; refine wpList_append_own _ rfl _ _ 24 rfl L.B 9 i0 (.string ByteArray.empty) 1 16 Tryd.underlying24 hi hz0 hz1 hz2 rfl (by decide) _ _ _ rfl (hown.out.alloc _) ⟨w.heap.size, 0, none⟩ 1 1 [.string ⟨b.toArray⟩] rfl rfl ?c1 ?c2 ?c3 ?c4 ?c5 ?_)
      case c1 => exact cell_one_new _ _ _
      case c2 => intro u hu; simp at hu; subst hu; rfl
      case c3 => unfold maxLen; omega
      case c4 => omega
      case c5 => have := HPM.out.lB; simp; omega
      intro v' w1 hown' hgr _
      obtain ⟨g', c', rfl, hA1, hPM1⟩ := (HPM.out.alloc (.cells #[.string ⟨b.toArray⟩] 9)).appA hgr hown'
      have hB1 := ((((Below.refl L.B w).alloc HPM.out.lB (.cells #[.string ⟨b.toArray⟩] 9)).grown hgr (by have := HPM.out.lB; simp; omega) (fun k hk => (HPM.out.oA.lt k hk).1)).setCell (p := ⟨L.A, 0, none⟩) L.hA (.slice (some ⟨g', 0, none⟩) (a.length + 1) c'))
      have fA1 := free_of_one hA1
      have cA1 := cell_of_one hA1
      clear hA1 hown' hgr cG cV cA fG fV fA fT fS
      go_upto_region 2 with fail
      rw [← HF.out] at hPM1
      generalize (w1.setCell ⟨L.A, 0, none⟩ (.slice (some ⟨g', 0, none⟩) (a.length + 1) c')) = w2 at hPM1 hB1 ⊢
      clear fA1 cA1
      have cV := cell_of_one hPM1.lV
      have cG := cell_of_one hPM1.lG
      have cT := cell_of_one hPM1.lT
      have cS := cell_of_one hPM1.lS
      have fG := free_of_one hPM1.lG
      have fV := free_of_one hPM1.lV
      have fT := free_of_one hPM1.lT
      have fS := free_of_one hPM1.lS
      have n1 : L.G ≠ L.V := ty_ne hPM1.lG hPM1.lV (by decide)
      have n2 : L.T ≠ L.V := ty_ne hPM1.lT hPM1.lV (by decide)
      have n3 : L.S ≠ L.V := ty_ne hPM1.lS hPM1.lV (by decide)
      have n4 : L.T ≠ L.G := ty_ne hPM1.lT hPM1.lG (by decide)
      have n5 : L.S ≠ L.G := ty_ne hPM1.lS hPM1.lG (by decide)
      have n6 : L.S ≠ L.T := fun e => L.hTS e.symm
      have HE := Lib.hid (set_back hPM1 hB1)
      clear hPM1 hB1
      go_wp2
      go_end0
      exact ⟨rfl, ⟨_, _, HE.out.1⟩, HE.out.2⟩
    · have e1 : ((g : Int) == 2) = false := by simpa using h1
      have e2 : ((g : Int) != 0) = true := by simpa using h2
      clear h1 h2
      go_enter Tryd.func38, Tryd.ntmps38
      go_wp2_with (at_builtin; refine wpList_append_own _ rfl _ _ 24 rfl L.B 9 i0 (.string ByteArray.empty) 1 16 Tryd.underlying24 hi hz0 hz1 hz2 rfl (by decide) _ _ _ rfl (hown.out.alloc _) ⟨w.heap.size, 0, none⟩ 1 1 [.string ⟨b.toArray⟩] rfl rfl ?c1 ?c2 ?c3 ?c4 ?c5 ?_)
      case c1 => exact cell_one_new _ _ _
      case c2 => intro u hu; simp at hu; subst hu; rfl
      case c3 => unfold maxLen; omega
      case c4 => omega
      case c5 => have := HPM.out.lB; simp; omega
      intro v' w1 hown' hgr _
      obtain ⟨g', c', rfl, hA1, hPM1⟩ := (HPM.out.alloc (.cells #[.string ⟨b.toArray⟩] 9)).appA hgr hown'
      have hB1 := ((((Below.refl L.B w).alloc HPM.out.lB (.cells #[.string ⟨b.toArray⟩] 9)).grown hgr (by have := HPM.out.lB; simp; omega) (fun k hk => (HPM.out.oA.lt k hk).1)).setCell (p := ⟨L.A, 0, none⟩) L.hA (.slice (some ⟨g', 0, none⟩) (a.length + 1) c'))
      have fA1 := free_of_one hA1
      have cA1 := cell_of_one hA1
      clear hA1 hown' hgr cG cV cA fG fV fA fT fS
      go_upto_region 2 with fail
      rw [← HF.out] at hPM1
      generalize (w1.setCell ⟨L.A, 0, none⟩ (.slice (some ⟨g', 0, none⟩) (a.length + 1) c')) = w2 at hPM1 hB1 ⊢
      clear fA1 cA1
      have cV := cell_of_one hPM1.lV
      have cG := cell_of_one hPM1.lG
      have cT := cell_of_one hPM1.lT
      have cS := cell_of_one hPM1.lS
      have fG := free_of_one hPM1.lG
      have fV := free_of_one hPM1.lV
      have fT := free_of_one hPM1.lT
      have fS := free_of_one hPM1.lS
      have n1 : L.G ≠ L.V := ty_ne hPM1.lG hPM1.lV (by decide)
      have n2 : L.T ≠ L.V := ty_ne hPM1.lT hPM1.lV (by decide)
      have n3 : L.S ≠ L.V := ty_ne hPM1.lS hPM1.lV (by decide)
      have n4 : L.T ≠ L.G := ty_ne hPM1.lT hPM1.lG (by decide)
      have n5 : L.S ≠ L.G := ty_ne hPM1.lS hPM1.lG (by decide)
      have n6 : L.S ≠ L.T := fun e => L.hTS e.symm
      have HE := Lib.hid (set_back hPM1 hB1)
      clear hPM1 hB1
      go_wp2
      go_end0
      exact ⟨rfl, ⟨_, _, HE.out.1⟩, HE.out.2⟩
  · have HF := Lib.hid (flA_no (a := a) (b := b) (g := g) (by
      refine ⟨fun e => hc (.inl e), ?_⟩
      by_cases h0 : g = 0
      · exact .inl h0
      · by_cases h1 : b = []
        · exact .inr h1
        · exact absurd (.inr ⟨h0, h1⟩) hc))
    have hc2 : g = 0 ∨ ((g : Int) ≠ 2 ∧ (g : Int) ≠ 0 ∧ ¬ 0 < b.length) := by
      by_cases h0 : g = 0
      · exact .inl h0
      · refine .inr ⟨fun e => hc (.inl (by omega)), by omega, fun e => hc (.inr ⟨h0, fun h1 => by simp [h1] at e⟩)⟩
    have hPM1 := h
    have hB1 := Below.refl L.B w
    rw [← HF.out] at hPM1
    clear h hc HPM hown hi hz0 hz1 hz2
    rcases hc2 with rfl | ⟨h1, h2, h3⟩
    · go_enter Tryd.func38, Tryd.ntmps38
      go_upto_region 2 with fail
      clear cG cV cA fG fV fA fT fS hcv
      have cV := cell_of_one hPM1.lV
      have cG := cell_of_one hPM1.lG
      have cT := cell_of_one hPM1.lT
      have cS := cell_of_one hPM1.lS
      have fG := free_of_one hPM1.lG
      have fV := free_of_one hPM1.lV
      have fT := free_of_one hPM1.lT
      have fS := free_of_one hPM1.lS
      have n1 : L.G ≠ L.V := ty_ne hPM1.lG hPM1.lV (by decide)
      have n2 : L.T ≠ L.V := ty_ne hPM1.lT hPM1.lV (by decide)
      have n3 : L.S ≠ L.V := ty_ne hPM1.lS hPM1.lV (by decide)
      have n4 : L.T ≠ L.G := ty_ne hPM1.lT hPM1.lG (by decide)
      have n5 : L.S ≠ L.G := ty_ne hPM1.lS hPM1.lG (by decide)
      have n6 : L.S ≠ L.T := fun e => L.hTS e.symm
      have HE := Lib.hid (set_back hPM1 hB1)
      clear hPM1 hB1
      go_wp2
      go_end0
      exact ⟨rfl, ⟨_, _, HE.out.1⟩, HE.out.2⟩
    · have e1 : ((g : Int) == 2) = false := by simpa using h1
      have e2 : ((g : Int) != 0) = true := by simpa using h2
      clear h1 h2
      go_enter Tryd.func38, Tryd.ntmps38
      go_upto_region 2 with fail
      clear cG cV cA fG fV fA fT fS hcv
      have cV := cell_of_one hPM1.lV
      have cG := cell_of_one hPM1.lG
      have cT := cell_of_one hPM1.lT
      have cS := cell_of_one hPM1.lS
      have fG := free_of_one hPM1.lG
      have fV := free_of_one hPM1.lV
      have fT := free_of_one hPM1.lT
      have fS := free_of_one hPM1.lS
      have n1 : L.G ≠ L.V := ty_ne hPM1.lG hPM1.lV (by decide)
      have n2 : L.T ≠ L.V := ty_ne hPM1.lT hPM1.lV (by decide)
      have n3 : L.S ≠ L.V := ty_ne hPM1.lS hPM1.lV (by decide)
      have n4 : L.T ≠ L.G := ty_ne hPM1.lT hPM1.lG (by decide)
      have n5 : L.S ≠ L.G := ty_ne hPM1.lS hPM1.lG (by decide)
      have n6 : L.S ≠ L.T := fun e => L.hTS e.symm
      have HE := Lib.hid (set_back hPM1 hB1)
      clear hPM1 hB1
      go_wp2
      go_end0
      exact ⟨rfl, ⟨_, _, HE.out.1⟩, HE.out.2⟩
end Go.Proofs.YtcjfcjlendibpaaDoor
