/- impl.parser and impl.Words. -/
import Derived.Test.YtcjfcjlendibpaaDoorParse
import Derived.Test.YtcjfcjlendibpaaDoorPEnv
import Derived.Deep.CutBlock
import Derived.Deep.QuietTactic
import Derived.BigQuiet
import Derived.Laws.IdiomStrings
import Derived.WideLaws
set_option linter.unusedVariables false
namespace Go.Proofs.YtcjfcjlendibpaaDoor
open Go.RowKit Plain

/-- the parser that impl.parser makes of a Shell without variables and without separators to keep -/
def IsParser (P B : Nat) (env cmt : Bool) (w : World) : Prop :=
  ∃ (O cx : Nat) (ad : Option Addr), w.heap[P]? = some (.cells #[.bool env, .bool cmt, .int .i64 0, .slice ad 0 cx, .func (.func 36) #[] #[.pointer (some ⟨O, 0, none⟩)]] 55 (0, 0)) ∧ w.cell? ⟨O, 2, none⟩ = some (.slice none 0 0) ∧ O < w.heap.size ∧ B ≤ P
set_option maxHeartbeats 1000000 in
set_option maxRecDepth 100000 in
theorem setExcl_any (P n cx : Nat) (ad : Option Addr) (w : World) (x0 x1 x2 x4 old : Value) (h : w.heap[P]? = some (.cells #[x0, x1, x2, old, x4] 55 (0, 0))) :
    Calls Tryd.prog 37 #[.pointer (some ⟨P, 0, none⟩), .slice ad n cx] w fun e w' => e = .returned (.tuple #[]) ∧ w' = w.setCell ⟨P, 3, none⟩ (.slice ad n cx) := by
  have c3 : w.cell? ⟨P, 3, none⟩ = some old := by simp [World.cell?, h]
  have f3 : w.frozen? ⟨P, 3, none⟩ = false := by simp [World.frozen?, h]
  clear h
  go_enter Tryd.func37, Tryd.ntmps37
  go_wp2
  go_end0
  exact ⟨rfl, rfl⟩
set_option maxHeartbeats 1000000 in
set_option maxRecDepth 100000 in
theorem parser_any (env cmt : Bool) (w : World) :
    Calls Tryd.prog 25 #[.agg #[.bool env, .bool cmt, .slice none 0 0, .string ⟨#[]⟩]] w fun e w' => ∃ P, e = .returned (.pointer (some ⟨P, 0, none⟩)) ∧ IsParser P w.heap.size env cmt w' ∧ Below w.heap.size w w' := by
  obtain ⟨CAP, XA, hcv⟩ : ∃ (CAP : World → Nat) (XA : World → Array Value), ∀ W : World, (convert 9 52 (.string ⟨#[]⟩)).run Tryd.prog W = .ok (.slice (some ⟨W.heap.size, 0, none⟩) 0 (CAP W)) (W.drew.alloc (.cells (XA W) 21)) :=
    ⟨_, _, fun W => run_runes_of_string (P := Tryd.prog) W 9 52 21 ⟨#[]⟩ Tryd.underlying9 Tryd.underlying52 Tryd.underlying21 (by decide)⟩
  have HCV := Lib.hid hcv
  clear hcv
  obtain ⟨V, hV⟩ : ∃ V : World, (w.alloc (.cells #[.bool env, .bool cmt, .slice none 0 0, .string ⟨#[]⟩] 29)).alloc (.cells #[.bool env, .bool cmt, .int .i64 0, .slice none 0 0, .func (.func 36) #[] #[.pointer (some ⟨w.heap.size, 0, none⟩)]] 55) = V := ⟨_, rfl⟩
  have hO : V.heap[w.heap.size]? = some (.cells #[.bool env, .bool cmt, .slice none 0 0, .string ⟨#[]⟩] 29 (0, 0)) := by
    rw [← hV]; exact (Below.heap_alloc _ _ _ (by simp)).trans (heap_alloc_new _ _)
  have hP : V.heap[w.heap.size + 1]? = some (.cells #[.bool env, .bool cmt, .int .i64 0, .slice none 0 0, .func (.func 36) #[] #[.pointer (some ⟨w.heap.size, 0, none⟩)]] 55 (0, 0)) := by
    have := heap_alloc_new (w.alloc (.cells #[.bool env, .bool cmt, .slice none 0 0, .string ⟨#[]⟩] 29)) (.cells #[.bool env, .bool cmt, .int .i64 0, .slice none 0 0, .func (.func 36) #[] #[.pointer (some ⟨w.heap.size, 0, none⟩)]] 55)
    rw [← hV]; simpa using this
  have hB : Below w.heap.size w V := by
    rw [← hV]; exact ((Below.refl _ w).alloc (Nat.le_refl _) _).alloc (by simp) _
  have hZ : V.heap.size = w.heap.size + 1 + 1 := by rw [← hV]; simp
  have cO : V.cell? ⟨w.heap.size, 3, none⟩ = some (.string ⟨#[]⟩) := by simp [World.cell?, hO]
  have HV := Lib.hid hV
  have HO := Lib.hid hO
  have HP := Lib.hid hP
  have HB := Lib.hid hB
  have HZ := Lib.hid hZ
  have HCO := Lib.hid cO
  clear hV hO hP hB hZ cO
  go_enter Tryd.func25, Tryd.ntmps25
  go_upto_region 2 with fail
  rw [HV.out]
  have cO := HCO.out
  have hcv := HCV.out
  have hw3 : (((V.alloc (.cells (XA V) 21)).drew)).heap[w.heap.size + 1]? = some (.cells #[.bool env, .bool cmt, .int .i64 0, .slice none 0 0, .func (.func 36) #[] #[.pointer (some ⟨w.heap.size, 0, none⟩)]] 55 (0, 0)) := (Below.heap_alloc _ _ _ (by show w.heap.size + 1 < V.heap.size; rw [HZ.out]; omega)).trans HP.out
  have HS := Lib.hid (setExcl_any (w.heap.size + 1) 0 (CAP V) (some ⟨V.heap.size, 0, none⟩) _ _ _ _ _ _ hw3)
  have HW3 := Lib.hid hw3
  clear hw3
  go_wp2_with (go_at_call 37; (with_reducible refine HS.out.mono ?_); rintro e w3 ⟨rfl, rfl⟩; dsimp only)
  go_ret
  have hlt : w.heap.size < V.heap.size := by rw [HZ.out]; omega
  have hbd : Below w.heap.size V ((V.alloc (.cells (XA V) 21)).drew) := ((Below.refl _ V).alloc (Nat.le_of_lt hlt) _).drew
  refine ⟨w.heap.size + 1, rfl, ⟨w.heap.size, CAP V, some ⟨V.heap.size, 0, none⟩, ?_, ?_, ?_, by omega⟩, ?_⟩
  · simp [World.setCell, Array.getElem?_modify, HW3.out]
  · have h1 : ((V.alloc (.cells (XA V) 21)).drew).heap[w.heap.size]? = some (.cells #[.bool env, .bool cmt, .slice none 0 0, .string ⟨#[]⟩] 29 (0, 0)) := (Below.heap_alloc _ _ _ hlt).trans HO.out
    have h2 : (((V.alloc (.cells (XA V) 21)).drew).setCell ⟨w.heap.size + 1, 3, none⟩ (.slice (some ⟨V.heap.size, 0, none⟩) 0 (CAP V))).heap[w.heap.size]? = some (.cells #[.bool env, .bool cmt, .slice none 0 0, .string ⟨#[]⟩] 29 (0, 0)) := (Below.heap_setCell _ _ _ _ (by show w.heap.size ≠ w.heap.size + 1; omega)).trans h1
    simp [World.cell?, h2]
  · have : w.heap.size < ((V.alloc (.cells (XA V) 21)).drew).heap.size := Nat.lt_of_lt_of_le hlt hbd.size
    simpa [World.setCell] using this
  · exact (HB.out.trans hbd).setCell (p := ⟨w.heap.size + 1, 3, none⟩) (by show w.heap.size ≤ w.heap.size + 1; omega) _

theorem own_mono {w : World} {B B' : Nat} {e : TypeId} {v : Value} {n : Nat} {xs : List Value} (h : w.ownsRow B e 1 v n xs) (hb : B' ≤ B) : w.ownsRow B' e 1 v n xs := by
  refine ⟨h.1, ?_⟩
  rcases h.2 with h2 | ⟨g, cap, cur, hv, hg, r⟩
  · exact .inl h2
  · exact .inr ⟨g, cap, cur, hv, Nat.le_trans hb hg, r⟩
/-- what impl.Words answers -/
def WPost (slp : Bool) (ANS : PA) (w0 : World) (e : Ending) (w' : World) : Prop :=
  ∃ A : PA, (slp = false → A = ANS) ∧ Below w0.heap.size w0 w' ∧
    match A with
    | none => e = .returned (.tuple #[.slice none 0 0, .int .i64 0, .bool false])
    | some (l, ps) => ∃ g c, l.length ≤ 4294967297 ∧ (∀ x ∈ l, x.length ≤ 1099511627776) ∧ e = .returned (.tuple #[.slice (some ⟨g, 0, none⟩) l.length c, .int .i64 ps, .bool true]) ∧ w'.ownsRow w0.heap.size 9 1 (.slice (some ⟨g, 0, none⟩) l.length c) l.length (l.map strV)
/-- what Parse answers at a parser that impl.parser has made, behind the world 'w0' -/
def QPost (P : Nat) (slp : Bool) (ANS : PA) (w0 W : World) (e : Ending) (w' : World) : Prop :=
  ∃ A : PA, (slp = false → A = ANS) ∧ Below w0.heap.size W w' ∧
    match A with
    | none => ∃ u x, e = .returned (.tuple #[.slice none 0 0, .iface u x])
    | some (l, ps) => ∃ g c, l.length ≤ 4294967297 ∧ (∀ x ∈ l, x.length ≤ 1099511627776) ∧ e = .returned (.tuple #[.slice (some ⟨g, 0, none⟩) l.length c, .nilIface]) ∧ w'.ownsRow w0.heap.size 9 1 (.slice (some ⟨g, 0, none⟩) l.length c) l.length (l.map strV) ∧ w'.cell? ⟨P, 2, none⟩ = some (.int .i64 ps)
theorem parse_at (s : ByteArray) (env cmt slp : Bool) (ANS : PA) (hANS : slp = false → words cmt (rnsOf s.data.toList) = ANS) (hDOL : slp = false → env = true → 36 ∉ rnsOf s.data.toList) (w : World) (hs : s.size ≤ 2147483648) (hPE : env = true → PEnv w)
    (W : World) (P : Nat) (h : IsParser P w.heap.size env cmt W) (hb : Below w.heap.size w W) (hE : EVar W) :
    Calls Tryd.prog 26 #[.pointer (some ⟨P, 0, none⟩), .string s] W (QPost P slp ANS w W) := by
  obtain ⟨O, cx, ad, h1, h2, h3, h4⟩ := h
  have hEl := hE.lt
  obtain ⟨u, x, hx⟩ := hE
  refine (parse_any s env cmt slp ANS hANS hDOL (.iface u x) P cx ad 0 (.func (.func 36) #[] #[.pointer (some ⟨O, 0, none⟩)]) W hs h1 (fun he => ⟨fun t W' hW' ht => hPE he t W' (bthen hb hW') ht, O, rfl, h2, h3⟩) hx hEl).mono ?_
  rintro e w' ⟨A, hA, hg, hm⟩
  refine ⟨A, hA, (Below.refl _ W).grown hg hb.size (fun k hk => by cases hk; exact h4), ?_⟩
  cases A with
  | none => exact ⟨u, x, hm.1⟩
  | some p =>
    obtain ⟨l, ps⟩ := p
    obtain ⟨g, c, hl, hx, he, ho, hp⟩ := hm
    exact ⟨g, c, hl, hx, he, own_mono ho hb.size, by simp [World.cell?, hp]⟩
set_option maxHeartbeats 2000000 in
set_option maxRecDepth 100000 in
theorem words_any (s : ByteArray) (env cmt slp : Bool) (ANS : PA) (hANS : slp = false → words cmt (rnsOf s.data.toList) = ANS) (hDOL : slp = false → env = true → 36 ∉ rnsOf s.data.toList) (w : World) (hs : s.size ≤ 2147483648) (hPE : env = true → PEnv w) (hE : EVar w) :
    Calls Tryd.prog 11 #[.string s, .agg #[.bool env, .bool cmt, .slice none 0 0, .string ⟨#[]⟩]] w (WPost slp ANS w) := by
  have HP1 := Lib.hid (fun W => parser_any env cmt W)
  have HPA := Lib.hid (fun (W0 W : World) (P : Nat) (hb0 : Below w.heap.size w W0) (h : IsParser P W0.heap.size env cmt W) (hb : Below W0.heap.size W0 W) => parse_at s env cmt slp ANS hANS hDOL W0 hs (fun he => (hPE he).below hb0) W P h hb ((hE.below hb0).below hb))
  clear hANS hDOL hPE hE
  go_enter Tryd.func11, Tryd.ntmps11
  go_wp2_with (go_at_call 25; (with_reducible refine (HP1.out _).mono ?_))
  rintro e w1 ⟨P, rfl, hip, hb1⟩
  dsimp only
  have hb0 := (Below.refl _ w).alloc (Nat.le_refl _) (.cells #[.bool env, .bool cmt, .slice none 0 0, .string ⟨#[]⟩] 29)
  have HQ := Lib.hid (HPA.out _ w1 P hb0 hip hb1)
  have HB1 := Lib.hid (bthen hb0 hb1)
  have hz0 : w.heap.size ≤ (w.alloc (.cells #[.bool env, .bool cmt, .slice none 0 0, .string ⟨#[]⟩] 29)).heap.size := hb0.size
  have HZ0 := Lib.hid hz0
  clear hip hb1 hb0 hz0 HPA HP1
  go_wp2_with (go_at_call 26; (with_reducible refine HQ.out.mono ?_))
  rintro e w2 ⟨A, hA, hb2, hm⟩
  have HB2 := Lib.hid (HB1.out.trans (hb2.mono HZ0.out))
  have HA := Lib.hid hA
  clear hA hb2 HQ
  cases A with
  | none =>
    obtain ⟨u, x, rfl⟩ := hm
    dsimp only
    go_wp2_with fail
    go_ret3
    exact ⟨none, HA.out, HB2.out, rfl⟩
  | some p =>
    obtain ⟨l, ps⟩ := p
    obtain ⟨g, c, hll, hxl, rfl, ho, hp⟩ := hm
    have HXL := Lib.hid hxl
    clear hxl
    have HO := Lib.hid (own_mono ho HZ0.out)
    clear ho
    dsimp only
    go_wp2_with fail
    go_quiet (fail)
    go_wp2
    go_ret3
    refine ⟨some (l, ps), HA.out, ?_, g, c, hll, HXL.out, rfl, ?_⟩
    · exact HB2.out.trans ⟨rfl, rfl, rfl, Nat.le_refl _, fun _ _ => rfl⟩
    · exact HO.out
end Go.Proofs.YtcjfcjlendibpaaDoor
