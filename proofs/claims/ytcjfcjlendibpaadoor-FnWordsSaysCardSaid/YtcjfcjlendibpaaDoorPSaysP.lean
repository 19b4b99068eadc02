/- The reference's reader of a line: its three small methods. -/
import Derived.Test.YtcjfcjlendibpaaDoorShellLaw
import Derived.Test.YtcjfcjlendibpaaDoorPRowLaw
import Derived.Deep.QuietTactic
import Derived.WalkMore
import Derived.Deep.RegionLaw
import Derived.Deep.AppendLies
import Derived.BigQuiet
set_option linter.unusedVariables false
namespace Go.Proofs.YtcjfcjlendibpaaDoor
open Go.RowKit Plain

def IsP (B g : Nat) (p : SP) (w : World) : Prop := B ≤ g ∧ ∃ vo, w.heap[g]? = some (.cells #[vo, .string ⟨p.word.toArray⟩, .bool p.begun, .bool p.single, .bool p.twin] 62 (0, 0)) ∧ w.ownsRow B 9 1 vo p.out.length (p.out.map strV)
theorem IsP.lt {B g : Nat} {p : SP} {w : World} (h : IsP B g p w) : g < w.heap.size := by
  obtain ⟨_, vo, h, _⟩ := h
  exact (Array.getElem?_eq_some_iff.1 h).1
theorem IsP.below {B g : Nat} {p : SP} {w w' : World} (h : IsP B g p w) (hb : Below w.heap.size w w') : IsP B g p w' := by
  have hl := h.lt
  obtain ⟨h0, vo, h1, h2⟩ := h
  exact ⟨h0, vo, (hb.block g hl).trans h1, own_bl h2 hb⟩
theorem par_set {g i : Nat} {cs : Array Value} {w : World} {v : Value} (h : w.heap[g]? = some (.cells cs 62 (0, 0))) : (w.setCell ⟨g, i, none⟩ v).heap[g]? = some (.cells (cs.setIfInBounds i v) 62 (0, 0)) := by
  simp only [World.setCell, Array.getElem?_modify, if_true, h, Option.map_some]
  rfl
theorem own_par {B g i : Nat} {cs : Array Value} {w : World} {v vo : Value} {n : Nat} {xs : List Value} (h : w.heap[g]? = some (.cells cs 62 (0, 0))) (ho : w.ownsRow B 9 1 vo n xs) : (w.setCell ⟨g, i, none⟩ v).ownsRow B 9 1 vo n xs :=
  kept_ne (row := some g) ho ⟨rfl, rfl, rfl, by simp [World.setCell], fun j _ hj => Below.heap_setCell _ _ _ _ (fun e => hj (by rw [e]))⟩ (fun k hk => by cases hk; exact own_ne ho h (by decide))
theorem convOne (c : UInt8) (W : World) (g : Nat) (hc : W.cell? ⟨g, 0, none⟩ = some (.int .u8 (c.toNat : Int))) :
    (convert 56 9 (.slice (some ⟨g, 0, none⟩) 1 1)).run Tryd.prog W = .ok (.string ⟨#[c]⟩) W := by
  refine run_convert_bytes_back W 56 9 5 ⟨g, 0, none⟩ 1 [c] Tryd.underlying56 Tryd.underlying5 Tryd.underlying9 (fun j hj => ?_)
  have hj0 : j = 0 := by simp at hj; omega
  subst hj0
  rw [Addr.add_lit]
  exact hc
set_option maxHeartbeats 2000000 in
set_option maxRecDepth 100000 in
theorem padd_any (B g : Nat) (p : SP) (c : UInt8) (z : Int) (hz : z = (c.toNat : Int)) (w : World) (h : IsP B g p w) (hw : p.word.length ≤ 1000) (hBw : B ≤ w.heap.size) :
    Calls Tryd.prog 31 #[.pointer (some ⟨g, 0, none⟩), .int .u8 z] w fun e w' => e = .returned (.tuple #[]) ∧ IsP B g (p.add c) w' ∧ Below B w w' := by
  subst hz
  have hlt := h.lt
  obtain ⟨h0, vo, h1, h2⟩ := h
  have c1 : w.cell? ⟨g, 1, none⟩ = some (.string ⟨p.word.toArray⟩) := by simp [World.cell?, h1]
  have f1 : w.frozen? ⟨g, 1, none⟩ = false := by simp [World.frozen?, h1]
  have f2 : w.frozen? ⟨g, 2, none⟩ = false := by simp [World.frozen?, h1]
  have hcA : ∀ W : World, (convert 56 9 (.slice (some ⟨W.heap.size, 0, none⟩) 1 1)).run Tryd.prog (W.alloc (.cells #[.int .u8 (c.toNat : Int)] 5)) = .ok (.string ⟨#[c]⟩) (W.alloc (.cells #[.int .u8 (c.toNat : Int)] 5)) := fun W => convOne c _ _ (by simp)
  have hcB : ∀ W : World, (convert 56 9 (.slice (some ⟨W.heap.size, 0, none⟩) 1 1)).run Tryd.prog (W.alloc (.cells #[.int .u8 (c.toNat : Int)] 5)).drew = .ok (.string ⟨#[c]⟩) (W.alloc (.cells #[.int .u8 (c.toNat : Int)] 5)).drew := fun W => convOne c _ _ (by simp)
  obtain ⟨X, hX⟩ : ∃ X : ByteArray, (⟨p.word.toArray⟩ : ByteArray) = X := ⟨_, rfl⟩
  have hXs : X.size ≤ 1000 := by rw [← hX, Lib.size_eq]; exact hw
  rw [hX] at c1
  have H1 := Lib.hid h1
  have H2 := Lib.hid h2
  have HX := Lib.hid hX
  clear h1 h2 hX hw
  go_enter Tryd.func31, Tryd.ntmps31
  go_wp2
  go_region
  have h1 := H1.out
  have hA := par_set (i := 1) (v := .string (X ++ ⟨#[c]⟩)) h1
  have oA := own_par (i := 1) (v := .string (X ++ ⟨#[c]⟩)) h1 H2.out
  have bA : Below B w (w.setCell ⟨g, 1, none⟩ (.string (X ++ ⟨#[c]⟩))) := (Below.refl _ w).setCell (p := ⟨g, 1, none⟩) h0 _
  have zA : (w.setCell ⟨g, 1, none⟩ (.string (X ++ ⟨#[c]⟩))).heap.size = w.heap.size := by simp [World.setCell]
  generalize w.setCell ⟨g, 1, none⟩ (.string (X ++ ⟨#[c]⟩)) = wA at hA oA bA zA ⊢
  have hB : ((wA.alloc (.cells #[.int .u8 (c.toNat : Int)] 5)).drew).heap[g]? = _ := (Below.heap_alloc wA _ g (by omega)).trans hA
  have oB : ((wA.alloc (.cells #[.int .u8 (c.toNat : Int)] 5)).drew).ownsRow B 9 1 vo p.out.length (p.out.map strV) := own_bl oA (((Below.refl _ wA).alloc (Nat.le_refl _) _).drew)
  have bB : Below B w ((wA.alloc (.cells #[.int .u8 (c.toNat : Int)] 5)).drew) := (bA.alloc (by omega) _).drew
  generalize (wA.alloc (.cells #[.int .u8 (c.toNat : Int)] 5)).drew = wB at hB oB bB ⊢
  have f2 : wB.frozen? ⟨g, 2, none⟩ = false := by simp [World.frozen?, hB]
  have c2 : wB.cell? ⟨g, 2, none⟩ = some (.bool p.begun) := by simp [World.cell?, hB]
  have HB := Lib.hid hB
  have OB := Lib.hid oB
  have BB := Lib.hid bB
  clear hA oA bA zA hB oB bB h1
  go_wp2
  go_end0
  refine ⟨rfl, ⟨h0, vo, (par_set (i := 2) HB.out).trans ?_, own_par HB.out OB.out⟩, BB.out.setCell (p := ⟨g, 2, none⟩) h0 _⟩
  have : X ++ (⟨#[c]⟩ : ByteArray) = ⟨(p.word ++ [c]).toArray⟩ := by
    rw [← HX.out]
    apply ByteArray.ext
    apply Array.toList_inj.1
    simp
  rw [this]
  rfl
theorem S_of_block {g : Nat} {w : World} {vo x b s t : Value} (h : w.heap[g]? = some (.cells #[vo, x, b, s, t] 62 (0, 0))) : w.cell? ⟨g, 0, none⟩ = some vo ∧ w.cell? ⟨g, 1, none⟩ = some x ∧ w.frozen? ⟨g, 0, none⟩ = false := by
  simp [World.cell?, World.frozen?, h]
set_option maxHeartbeats 2000000 in
set_option maxRecDepth 100000 in
theorem pend_any (B g : Nat) (p : SP) (w : World) (h : IsP B g p w) (ho : p.out.length ≤ 1000) (hBw : B ≤ w.heap.size) :
    Calls Tryd.prog 33 #[.pointer (some ⟨g, 0, none⟩)] w fun e w' => e = .returned (.tuple #[]) ∧ IsP B g p.end w' ∧ Below B w w' := by
  have hlt := h.lt
  obtain ⟨h0, vo, h1, h2⟩ := h
  have hvo : vo.ownBlock ≠ some g := own_ne h2 h1 (by decide)
  obtain ⟨i0, hi, hz0, hz1, hz2⟩ := info_parts infoStr
  have HI := Lib.hid (And.intro hi (And.intro hz0 (And.intro hz1 hz2)))
  clear hi hz0 hz1 hz2
  have c0 : w.cell? ⟨g, 0, none⟩ = some vo := by simp [World.cell?, h1]
  have c1 : w.cell? ⟨g, 1, none⟩ = some (.string ⟨p.word.toArray⟩) := by simp [World.cell?, h1]
  have c2 : w.cell? ⟨g, 2, none⟩ = some (.bool p.begun) := by simp [World.cell?, h1]
  have f0 : w.frozen? ⟨g, 0, none⟩ = false := by simp [World.frozen?, h1]
  have f1 : w.frozen? ⟨g, 1, none⟩ = false := by simp [World.frozen?, h1]
  have f2 : w.frozen? ⟨g, 2, none⟩ = false := by simp [World.frozen?, h1]
  obtain ⟨bg, hbg⟩ : ∃ bg, p.begun = bg := ⟨_, rfl⟩
  rw [hbg] at c2
  have H1 := Lib.hid h1
  have H2 := Lib.hid h2
  have HBG := Lib.hid hbg
  clear h1 h2 hbg
  cases bg with
  | false =>
    go_enter Tryd.func33, Tryd.ntmps33
    go_wp2
    go_end0
    have e : p.end = { p with word := [], begun := false } := by unfold SP.end; rw [if_neg (by rw [HBG.out]; decide)]
    rw [e]
    refine ⟨rfl, ⟨h0, vo, (par_set (i := 2) (par_set (i := 1) H1.out)).trans rfl, own_par (par_set (i := 1) H1.out) (own_par H1.out H2.out)⟩, ((Below.refl _ w).setCell (p := ⟨g, 1, none⟩) h0 _).setCell (p := ⟨g, 2, none⟩) h0 _⟩
  | true =>
    go_enter Tryd.func33, Tryd.ntmps33
    go_wp2
    go_region_law (refine step_append_lies _ (by rfl) _ _ 24 (by rfl) B 9 i0 (.string ByteArray.empty) 1 16 Tryd.underlying24 HI.out.1 HI.out.2.1 HI.out.2.2.1 HI.out.2.2.2 rfl (by decide) vo p.out.length (p.out.map strV) (by rfl) (own_bl H2.out (by first | exact ((Below.refl _ _).alloc (Nat.le_refl _) _).drew | exact (Below.refl _ _).alloc (Nat.le_refl _) _ | exact (Below.refl _ _).drew.alloc (Nat.le_refl _) _)) ⟨w.heap.size, 0, none⟩ 1 1 [strV p.word] (by rfl) rfl (by first | exact cell_one_new _ _ _ | (intro j u hu; simp at hu; obtain ⟨rfl, rfl⟩ := hu; simp [strV])) (by intro u hu; simp at hu; subst hu; rfl) (by decide) (by unfold maxLen; omega) (by omega) (by simp; omega) (w.heap.size + 1) (by simp) ?_; intro g2 cap w1 hown1 hgrow hat hlt2; obtain ⟨k1, k2, k3⟩ := S_of_block ((hgrow.block g (Nat.lt_of_lt_of_le hlt (by simp)) (fun e => hvo e.symm)).trans ((Below.heap_alloc w _ g hlt).trans H1.out)))
    all_goals
      have hw1 : w1.heap[g]? = _ := (hgrow.block g (Nat.lt_of_lt_of_le hlt (by simp)) (fun e => hvo e.symm)).trans ((Below.heap_alloc w _ g hlt).trans H1.out)
      have hA := par_set (i := 0) (v := .slice (some ⟨g2, 0, none⟩) (p.out.length + 1) cap) hw1
      have oA := own_par (i := 0) (v := .slice (some ⟨g2, 0, none⟩) (p.out.length + 1) cap) hw1 hown1
      have b1 : Below B w w1 := ((((Below.refl B w).alloc hBw (.cells #[.string ⟨p.word.toArray⟩] 9)).drew).grown hgrow (by simp; omega) (fun k hk => (H2.out.lt k hk).1))
      have bA : Below B w (w1.setCell ⟨g, 0, none⟩ (.slice (some ⟨g2, 0, none⟩) (p.out.length + 1) cap)) := b1.setCell (p := ⟨g, 0, none⟩) h0 _
      clear k1 k2 k3 hown1 hgrow hat b1 hw1 c0 c1 f0 f1 f2
      generalize w1.setCell ⟨g, 0, none⟩ (.slice (some ⟨g2, 0, none⟩) (p.out.length + 1) cap) = wA at hA oA bA ⊢
      have f1 : wA.frozen? ⟨g, 1, none⟩ = false := by simp [World.frozen?, hA]
      have f2 : wA.frozen? ⟨g, 2, none⟩ = false := by simp [World.frozen?, hA]
      have c1 : wA.cell? ⟨g, 1, none⟩ = some (.string ⟨p.word.toArray⟩) := by simp [World.cell?, hA]
      have c2 : wA.cell? ⟨g, 2, none⟩ = some (.bool p.begun) := by simp [World.cell?, hA]
      have HA := Lib.hid hA
      have OA := Lib.hid oA
      have BA := Lib.hid bA
      clear hA oA bA
      go_wp2
      go_end0
      have e : p.end = ⟨p.out ++ [p.word], [], false, p.single, p.twin⟩ := by unfold SP.end; rw [if_pos HBG.out]
      rw [e]
      refine ⟨rfl, ⟨h0, _, (par_set (i := 2) (par_set (i := 1) HA.out)).trans rfl, ?_⟩, (BA.out.setCell (p := ⟨g, 1, none⟩) h0 _).setCell (p := ⟨g, 2, none⟩) h0 _⟩
      have := own_par (i := 2) (v := .bool false) (par_set (i := 1) (v := .string ⟨#[]⟩) HA.out) (own_par (i := 1) (v := .string ⟨#[]⟩) HA.out OA.out)
      simpa using this
end Go.Proofs.YtcjfcjlendibpaaDoor

set_option linter.unusedVariables false
namespace Go.Proofs.YtcjfcjlendibpaaDoor
open Go.RowKit Plain

def quoteR (c : UInt8) (p : SP) : Option SP :=
  if c.toNat = 39 ∧ p.twin = false then some { p with single := !p.single, begun := true }
  else if c.toNat = 34 ∧ p.single = false then some { p with twin := !p.twin, begun := true } else none
theorem IsP.set {B g : Nat} {p q : SP} {w : World} {vo : Value} (i : Nat) (v : Value) (h0 : B ≤ g) (h1 : w.heap[g]? = some (.cells #[vo, .string ⟨p.word.toArray⟩, .bool p.begun, .bool p.single, .bool p.twin] 62 (0, 0))) (h2 : w.ownsRow B 9 1 vo p.out.length (p.out.map strV))
    (ho : q.out = p.out) (he : (#[vo, .string ⟨p.word.toArray⟩, .bool p.begun, .bool p.single, .bool p.twin] : Array Value).setIfInBounds i v = #[vo, .string ⟨q.word.toArray⟩, .bool q.begun, .bool q.single, .bool q.twin]) : IsP B g q (w.setCell ⟨g, i, none⟩ v) := by
  refine ⟨h0, vo, ?_, ?_⟩
  · rw [← he]; exact par_set h1
  · rw [ho]; exact own_par h1 h2
set_option maxHeartbeats 2000000 in
set_option maxRecDepth 100000 in
theorem pquote_any (B g : Nat) (p : SP) (c : UInt8) (z : Int) (hz : z = (c.toNat : Int)) (w : World) (h : IsP B g p w) (hBw : B ≤ w.heap.size) :
    Calls Tryd.prog 32 #[.pointer (some ⟨g, 0, none⟩), .int .u8 z] w fun e w' => e = .returned (.bool (quoteR c p).isSome) ∧ IsP B g ((quoteR c p).getD p) w' ∧ Below B w w' := by
  subst hz
  have hp := h
  obtain ⟨h0, vo, h1, h2⟩ := h
  have c2 : w.cell? ⟨g, 2, none⟩ = some (.bool p.begun) := by simp [World.cell?, h1]
  have c3 : w.cell? ⟨g, 3, none⟩ = some (.bool p.single) := by simp [World.cell?, h1]
  have c4 : w.cell? ⟨g, 4, none⟩ = some (.bool p.twin) := by simp [World.cell?, h1]
  have f2 : w.frozen? ⟨g, 2, none⟩ = false := by simp [World.frozen?, h1]
  have f3 : w.frozen? ⟨g, 3, none⟩ = false := by simp [World.frozen?, h1]
  have f4 : w.frozen? ⟨g, 4, none⟩ = false := by simp [World.frozen?, h1]
  obtain ⟨C, hC⟩ : ∃ C : Nat, c.toNat = C := ⟨_, rfl⟩
  obtain ⟨ps, hps⟩ : ∃ ps, p.single = ps := ⟨_, rfl⟩
  obtain ⟨pt, hpt⟩ : ∃ pt, p.twin = pt := ⟨_, rfl⟩
  rw [hC]
  rw [hps] at c3
  rw [hpt] at c4
  have fin1 : ∀ {q : SP}, quoteR c p = some q → (quoteR c p).isSome = true ∧ (quoteR c p).getD p = q := fun h => by rw [h]; exact ⟨rfl, rfl⟩
  have HPP := Lib.hid hp
  have H1 := Lib.hid h1
  have H2 := Lib.hid h2
  by_cases k39 : C = 39 ∧ pt = false
  · obtain ⟨rfl, rfl⟩ := k39
    have hq : quoteR c p = some { p with single := !p.single, begun := true } := by unfold quoteR; rw [if_pos ⟨hC, hpt⟩]
    have HQ := Lib.hid (fin1 hq)
    have HPS := Lib.hid hps
    clear h1 h2 hC hps hpt fin1 hp hq
    go_enter Tryd.func32, Tryd.ntmps32
    go_wp2
    go_ret
    rw [HQ.out.1, HQ.out.2]
    have hA := (IsP.set (q := { p with single := !p.single }) 3 (.bool (!ps)) h0 H1.out H2.out rfl (by rw [← HPS.out]; rfl))
    obtain ⟨_, vo2, hA1, hA2⟩ := hA
    exact ⟨rfl, IsP.set 2 (.bool true) h0 hA1 hA2 rfl rfl, ((Below.refl _ w).setCell (p := ⟨g, 3, none⟩) h0 _).setCell (p := ⟨g, 2, none⟩) h0 _⟩
  by_cases k34 : C = 34 ∧ ps = false
  · obtain ⟨rfl, rfl⟩ := k34
    have hq : quoteR c p = some { p with twin := !p.twin, begun := true } := by unfold quoteR; rw [if_neg (by rw [hC]; omega), if_pos ⟨hC, hps⟩]
    have HQ := Lib.hid (fin1 hq)
    have HPT := Lib.hid hpt
    clear h1 h2 hC hps hpt fin1 hp hq k39
    go_enter Tryd.func32, Tryd.ntmps32
    go_wp2
    go_ret
    rw [HQ.out.1, HQ.out.2]
    have hA := (IsP.set (q := { p with twin := !p.twin }) 4 (.bool (!pt)) h0 H1.out H2.out rfl (by rw [← HPT.out]; rfl))
    obtain ⟨_, vo2, hA1, hA2⟩ := hA
    exact ⟨rfl, IsP.set 2 (.bool true) h0 hA1 hA2 rfl rfl, ((Below.refl _ w).setCell (p := ⟨g, 4, none⟩) h0 _).setCell (p := ⟨g, 2, none⟩) h0 _⟩
  have hq : quoteR c p = none := by unfold quoteR; rw [if_neg (by rw [hC, hpt]; exact k39), if_neg (by rw [hC, hps]; exact k34)]
  have HQ := Lib.hid hq
  clear h1 h2 hps hpt fin1 hp hq
  have no39 : C = 39 → pt = true := fun e => by cases pt with | true => rfl | false => exact absurd ⟨e, rfl⟩ k39
  have no34 : C = 34 → ps = true := fun e => by cases ps with | true => rfl | false => exact absurd ⟨e, rfl⟩ k34
  clear k39 k34 hC
  by_cases e39 : C = 39
  · have ht := no39 e39
    subst e39 ht
    clear no39 no34
    go_enter Tryd.func32, Tryd.ntmps32
    go_wp2
    go_ret
    rw [HQ.out]
    exact ⟨rfl, HPP.out, Below.refl _ _⟩
  by_cases e34 : C = 34
  · have ht := no34 e34
    subst e34 ht
    clear no39 no34
    go_enter Tryd.func32, Tryd.ntmps32
    go_wp2
    go_ret
    rw [HQ.out]
    exact ⟨rfl, HPP.out, Below.refl _ _⟩
  · have z39 : ((C : Int) == 39) = false := by rw [beq_eq_false_iff_ne]; omega
    have z34 : ((C : Int) == 34) = false := by rw [beq_eq_false_iff_ne]; omega
    clear no39 no34
    go_enter Tryd.func32, Tryd.ntmps32
    go_wp2
    go_ret
    rw [HQ.out]
    exact ⟨rfl, HPP.out, Below.refl _ _⟩
end Go.Proofs.YtcjfcjlendibpaaDoor
