/- The law FnPropsBack: properties that are written are read back. -/
import Derived.Test.YtgmhigjhooihdaaGreatDoorBackTop
set_option linter.unusedVariables false
namespace Go.Proofs.YtgmhigjhooihdaaGreatDoor
open Go.RowKit Plain Go.Maps

theorem u8_bd {x : Int} (h : (Lit.int .u8 x).wf = true) : 0 ≤ x ∧ x ≤ 255 := by simpa [Lit.wf, IntKind.min, IntKind.max, IntKind.signed, IntKind.bits] using h
def sepOf (r : Nat) : ByteArray := if r = 0 then ⟨#[]⟩ else if r = 1 then ⟨#[61]⟩ else if r = 2 then ⟨#[58]⟩ else ⟨#[32, 58, 32]⟩
def sepW (r : Nat) : ByteArray := if r = 0 then ⟨#[32, 61, 32]⟩ else sepOf r
theorem sep_ok (r : Nat) (hr : r < 4) : isSep (sepW r).data.toList ∧ (sepW r).size ≤ 10 ∧ (sepOf r).size ≤ 10 ∧ ((sepOf r = ⟨#[]⟩ ∧ sepW r = ⟨#[32, 61, 32]⟩) ∨ (¬ (sepOf r).size = 0 ∧ sepW r = sepOf r)) := by
  match r, hr with
  | 0, _ => exact ⟨.inl rfl, by decide, by decide, .inl ⟨rfl, rfl⟩⟩
  | 1, _ => exact ⟨.inr (.inl rfl), by decide, by decide, .inr ⟨by decide, rfl⟩⟩
  | 2, _ => exact ⟨.inr (.inr (.inl rfl)), by decide, by decide, .inr ⟨by decide, rfl⟩⟩
  | 3, _ => exact ⟨.inr (.inr (.inr rfl)), by decide, by decide, .inr ⟨by decide, rfl⟩⟩
theorem sep_cell (y : World) (r : Nat) (hr : r < 4) : (y.alloc (.cells #[.string ⟨#[]⟩, .string ⟨#[61]⟩, .string ⟨#[58]⟩, .string ⟨#[32, 58, 32]⟩] 9)).cell? ⟨y.heap.size, r, none⟩ = some (.string (sepOf r)) := by
  rw [World.cell?_alloc_new]
  match r, hr with
  | 0, _ => rfl
  | 1, _ => rfl
  | 2, _ => rfl
  | 3, _ => rfl
theorem listed_nt (nt : Bool) (A : Option Addr) (n c : Nat) (l : List PropD) (w : World) (hr : PrA A l w) (hn : l.length = n) (hnc : n ≤ c) (hln : n ≤ 2097152) (hf : ∀ d ∈ l, FitP d) (hcm : ∀ d ∈ l, d.com.length ≤ 2097152) (hT : Tabs w) :
    Calls Tryz.prog 25 #[.slice A n c, .bool nt] w (ListPost nt l w) := by
  cases nt with
  | false => exact listedF_any A n c l w hr hn hnc (by omega) hf hT
  | true => exact listedT_any A n c l w hr hn hnc hln hf hcm hT
theorem backs_lat (lat : Bool) (A : Option Addr) (n c : Nat) (l : List PropD) (w : World) (hr : PrA A l w) (hn : l.length = n) (hln : n ≤ 8589934592) (hf : ∀ d ∈ l, FitP d) :
    Calls Tryz.prog 26 #[.slice A n c, .bool lat] w (BackPost lat l w) := by
  cases lat with
  | false => exact backsF_any A n c l w hr hn hln hf
  | true => exact backsT_any A n c l w hr hn hln hf
def LdB (P : PSt) (w : World) (e : Ending) (w' : World) : Prop := ∃ v, e = .returned (.tuple #[v, .bool true]) ∧ PRow w.heap.size v (P.ks.map (dataOf P (rawOf P.D))) w' ∧ Below w.heap.size w w'
theorem load_any (lat : Bool) (T : ByteArray) (P : PSt) (w : World) (hs : T.size ≤ 25000) (hT : Tabs w) (h1 : parL (lexL (unbom T)) [] pst0 = some P) (h2 : lat = true → parL (lexL (latT T)) [] pst0 = some P) :
    Calls Tryz.prog 21 #[.string T, .int .i64 (if lat then 2 else 1), .bool true] w (LdB P w) := by
  cases lat with
  | false => exact (loadProps_plain T w (by omega) hT (some P) h1).mono (by rintro e w' ⟨hb, v, rfl, hr⟩; exact ⟨v, rfl, hr, hb⟩)
  | true => exact (loadProps_lat T w hs hT (some P) (h2 rfl)).mono (by rintro e w' ⟨hb, v, rfl, hr⟩; exact ⟨v, rfl, hr, hb⟩)
set_option maxHeartbeats 16000000 in
set_option maxRecDepth 100000 in
theorem fnPropsBack_walk (A : Option Addr) (n c : Nat) (l : List PropD) (ci : Int) (lat nt : Bool) (w : World)
    (h1 : PrA A l w) (e1 : l.length = n) (k1 : n ≤ c) (m1 : n ≤ 9223372036854775807) (z1 : A = none → c = 0) (h3 : (Lit.int .u8 ci).wf = true) (hU : n ≤ 2097152 ∧ ∀ d ∈ l, d.com.length ≤ 2097152) (hT : WTab w) :
    Calls Tryz.prog 6 #[.slice A n c, .int .u8 ci, .bool lat, .bool nt] w fun e w' => e = .returned (.bool true) ∧ Below w.heap.size w w' := by
  obtain ⟨s0, s1⟩ := u8_bd h3
  obtain ⟨sp, rfl⟩ : ∃ c : Nat, ci = (c : Int) := ⟨ci.toNat, by omega⟩
  have HA := Lib.hid h1
  have HE1 := Lib.hid e1
  have HT := Lib.hid hT
  have HU := Lib.hid hU
  have hn2 := hU.1
  have HF1 : Hid (Calls Tryz.prog 23 #[.slice A n c] w fun e w' => BoolP (n ≤ 2147483647 ∧ ∀ d ∈ l, FitP d) e ∧ Below w.heap.size w w') := Lib.hid (fits4_any A n c l w h1 e1 m1)
  obtain ⟨r, hr⟩ : ∃ r, sp % 4 = r := ⟨_, rfl⟩
  have hr4 : r < 4 := by omega
  have hrem : Int.tmod (sp : Int) 4 = (r : Int) := by rw [← hr]; rfl
  clear h1 e1 z1 hT hU h3 s0 s1 hr
  go_enter Tryz.func6, Tryz.ntmps6
  go_wp2_with (go_at_call 23; (with_reducible refine HF1.out.mono ?_))
  rintro e w3 ⟨⟨b1, rfl, hf1⟩, hb2⟩
  dsimp only
  have HFA := Lib.hid hf1
  have HB3 := Lib.hid hb2
  clear hf1 hb2
  cases b1 with
  | false =>
    clear HFA
    go_wp2
    go_ret
    exact ⟨rfl, HB3.out⟩
  | true =>
  have HFAt := Lib.hid (HFA.out rfl)
  clear HFA
  obtain ⟨W3, hW3⟩ : ∃ W, w3.alloc (.cells #[.string ⟨#[97]⟩, .string ⟨#[98]⟩, .string ⟨#[]⟩, .slice none 0 0] 34) = W := ⟨_, rfl⟩
  have hbW3 : Below w.heap.size w W3 := hW3 ▸ HB3.out.alloc HB3.out.size _
  have hWP : Calls Tryz.prog 24 #[.slice (some ⟨w3.heap.size, 0, none⟩) 1 1, .string ⟨#[]⟩, .string ⟨#[]⟩, .int .i64 1] W3 (WrPost [97, 32, 61, 32, 98, 10] W3) := by
    have h9 := wpropsA_any false 1 (.inl rfl) (some ⟨w3.heap.size, 0, none⟩) 1 1 [dAB] ⟨#[]⟩ ⟨#[32, 61, 32]⟩ W3 (fun i d hd => by
      have hi : i = 0 := by have := (List.getElem?_eq_some_iff.1 hd).1; simp at this; exact this
      subst hi
      injection hd with hd
      subst hd
      have hb := heap_alloc_new w3 (.cells #[.string ⟨#[97]⟩, .string ⟨#[98]⟩, .string ⟨#[]⟩, .slice none 0 0] 34)
      rw [hW3] at hb
      obtain ⟨q0, q1, q2, q3⟩ := four_cellsA hb
      exact ⟨_, rfl, q0, q1, q2, none, 0, q3, rowA_nil _ _, Nat.le_refl _, by decide⟩) rfl (by decide) (by simp) (fun d hd => by simp at hd; subst hd; exact sz_ab) (by decide) (by decide) (HT.out.below hbW3) (.inl ⟨rfl, rfl⟩)
    rw [text_ab] at h9
    exact h9
  have HWP := Lib.hid hWP
  have HW3 := Lib.hid hW3
  have HBW3 := Lib.hid hbW3
  have HLI : Hid (∀ y, Below w.heap.size w y → Calls Tryz.prog 25 #[.slice A n c, .bool nt] y fun e w' => BoolP (LST nt l ∧ totP l ≤ 1500) e ∧ Below w.heap.size w w') := Lib.hid (fun y hy => (listed_nt nt A n c l y (HA.out.below hy) HE1.out k1 hn2 HFAt.out.2 HU.out.2 (HT.out.below hy).1).mono (by rintro e w' ⟨h, hb⟩; exact ⟨h, bthen hy hb⟩))
  have HBK : Hid (∀ y, Below w.heap.size w y → Calls Tryz.prog 26 #[.slice A n c, .bool lat] y fun e w' => BoolP (BK lat l) e ∧ Below w.heap.size w w') := Lib.hid (fun y hy => (backs_lat lat A n c l y (HA.out.below hy) HE1.out (by omega) HFAt.out.2).mono (by rintro e w' ⟨h, hb⟩; exact ⟨h, bthen hy hb⟩))
  clear hWP hW3 hbW3
  go_wp2_with (first
    | (rw [HW3.out])
    | (go_at_call 24; (with_reducible refine HWP.out.mono ?_); rintro e w4 ⟨rfl, hb4⟩; have HB4 : Hid (Below w.heap.size w w4) := Lib.hid (bthen HBW3.out hb4); clear hb4; dsimp only)
    | (go_at_call 25; (with_reducible refine (HLI.out _ HB4.out).mono ?_)))
  rintro e w5 ⟨⟨b5, rfl, h5⟩, hb5⟩
  dsimp only
  have HL5 := Lib.hid h5
  have HB5 := Lib.hid hb5
  clear h5 hb5
  cases b5 with
  | false =>
    clear HL5
    go_wp2
    go_ret
    exact ⟨rfl, HB5.out⟩
  | true =>
  have HLS := Lib.hid (HL5.out rfl)
  clear HL5
  go_wp2_with (go_at_call 26; (with_reducible refine (HBK.out _ HB5.out).mono ?_))
  rintro e w6 ⟨⟨b6, rfl, h6⟩, hb6⟩
  dsimp only
  have HK6 := Lib.hid h6
  have HB6 := Lib.hid hb6
  clear h6 hb6
  cases b6 with
  | false =>
    clear HK6
    go_wp2
    go_ret
    exact ⟨rfl, HB6.out⟩
  | true =>
  have HBKt := Lib.hid (HK6.out rfl)
  clear HK6
  have hsz := sz_of HLS.out.1 HLS.out.2
  have hn15 : n ≤ 1500 := by have := totP_len l; have := HE1.out; have := HLS.out.2; omega
  obtain ⟨q1, q2, q3, q4⟩ := sep_ok r hr4
  obtain ⟨ec, hec, hec2, hec3⟩ : ∃ e : Nat, (e = 1 ∨ e = 2) ∧ (e : Int) = (if lat then 2 else 1) ∧ e = if lat then 2 else 1 := by
    cases lat
    · exact ⟨1, .inl rfl, rfl, rfl⟩
    · exact ⟨2, .inr rfl, rfl, rfl⟩
  have hX := fun y (hy : Below w.heap.size w y) => wpropsA_any nt ec hec A n c l (sepOf r) (sepW r) y (HA.out.below hy) HE1.out (by omega) HLS.out.1.nd hsz q2 q3 (HT.out.below hy) q4
  rw [allE_T (sepW r) ec nt l HLS.out.1.nd (tok_of HLS.out.1 HBKt.out ec hec3)] at hX
  have hlen := allT_len (sepW r).data.toList (by rw [← Lib.size_eq]; exact q2) l true
  obtain ⟨T, hTT⟩ : ∃ t : ByteArray, ⟨(allT (sepW r).data.toList true l).toArray⟩ = t := ⟨_, rfl⟩
  have hTl : T.data.toList = allT (sepW r).data.toList true l := by rw [← hTT]
  have hlb := load_back nt lat (sepW r).data.toList q1 l HLS.out.1 HBKt.out T hTl
  obtain ⟨KT, hKT⟩ : ∃ k, (allT (sepW r).data.toList true l).length = k := ⟨_, rfl⟩
  have hTs : T.size = KT := by rw [Lib.size_eq, hTl, hKT]
  have hK3 : KT ≤ 18000 := by rw [hKT] at hlen; have := HLS.out.2; omega
  obtain ⟨P, hP⟩ : ∃ p, l.foldl addP pst0 = p := ⟨_, rfl⟩
  rw [hP] at hlb
  obtain ⟨hbl1, hbl2⟩ := back_like l HLS.out.1.nd (rawOf P.D)
  rw [hP] at hbl1 hbl2
  have hcm : ∀ d ∈ P.ks.map (dataOf P (rawOf P.D)), d.com.length ≤ 10000000 := fun d hd => by
    obtain ⟨i, hi⟩ := List.getElem?_of_mem hd
    have hil := (List.getElem?_eq_some_iff.1 hi).1
    rw [hbl1] at hil
    have h9 := hbl2 i d l[i] hi (List.getElem?_eq_getElem hil)
    rw [h9.2.2]
    have := (hsz l[i] (List.getElem_mem hil)).n
    omega
  unfold WrPost at hX
  rw [hTT, hKT] at hX
  have HLD : Hid (∀ y, Below w.heap.size w y → Calls Tryz.prog 21 #[.string T, .int .i64 (if lat then 2 else 1), .bool true] y (LdB P y)) := Lib.hid (fun y hy => load_any lat T P y (by rw [hTs]; omega) (HT.out.below hy).1 hlb.1 hlb.2)
  have HEQ : Hid (∀ y v B, Below w.heap.size w y → PRow B v (P.ks.map (dataOf P (rawOf P.D))) y → Calls Tryz.prog 14 #[v, .slice A n c, .bool false] y fun e w' => e = .returned (.bool true) ∧ Below y.heap.size y w') := Lib.hid (fun y v B hy hv => eqProps_sameA B v _ l A c y n (hbl1.trans HE1.out) HE1.out (by omega) hcm (fun i a b ha hb => hbl2 i a b ha hb) hv (HA.out.below hy))
  have hnz : ((KT : Int) == (T.size : Int)) = true := by rw [hTs]; simp
  have HSC : Hid (∀ y : World, (y.alloc (.cells #[.string ⟨#[]⟩, .string ⟨#[61]⟩, .string ⟨#[58]⟩, .string ⟨#[32, 58, 32]⟩] 9)).cell? ⟨y.heap.size, r, none⟩ = some (.string (sepOf r))) := Lib.hid (fun y => sep_cell y r hr4)
  obtain ⟨SR, hSR⟩ : ∃ s, sepOf r = s := ⟨_, rfl⟩
  obtain ⟨pf, hpf⟩ : ∃ s, pfx nt = s := ⟨_, rfl⟩
  obtain ⟨E, hE⟩ : ∃ s : Int, (ec : Int) = s := ⟨_, rfl⟩
  rw [hSR, hpf, hE] at hX
  rw [hSR] at HSC
  rw [hE] at hec2
  rw [← hec2] at HLD
  have HX := Lib.hid hX
  have HBA : Hid (∀ o, Below w.heap.size w (w6.alloc o)) := Lib.hid (fun o => HB6.out.alloc HB6.out.size o)
  have hscw := HSC.out w6
  have hrz : (r : Int) < 4 := by omega
  clear hX hTl hTT hTs hKT hlen hlb hP hbl1 hbl2 hcm hsz q1 q2 q3 q4 hSR hE hec hec3 HF1 HSC
  cases lat <;> cases nt
  all_goals
    first | obtain rfl : pf = ⟨#[35, 32]⟩ := hpf.symm | obtain rfl : pf = ⟨#[]⟩ := hpf.symm
    first | obtain rfl : E = 2 := hec2 | obtain rfl : E = 1 := hec2
    clear hpf
    go_wp2_with (first
      | (go_at_call 24; (with_reducible refine (HX.out _ (HBA.out _)).mono ?_); rintro e w7 ⟨rfl, hb7⟩; have HB7 : Hid (Below w.heap.size w w7) := Lib.hid (bthen (HBA.out _) hb7); clear hb7; dsimp only)
      | (go_at_call 21; (with_reducible refine (HLD.out _ HB7.out).mono ?_); rintro e w8 ⟨v8, rfl, hr8, hb8⟩; have HR8 := Lib.hid hr8; have HB8 : Hid (Below w.heap.size w w8) := Lib.hid (bthen HB7.out hb8); clear hr8 hb8; dsimp only)
      | (go_at_call 14; (with_reducible refine (HEQ.out _ _ _ HB8.out HR8.out).mono ?_); rintro e w9 ⟨rfl, hb9⟩; have HB9 : Hid (Below w.heap.size w w9) := Lib.hid (bthen HB8.out hb9); clear hb9; dsimp only))
    go_ret
    exact ⟨rfl, HB9.out⟩
end Go.Proofs.YtgmhigjhooihdaaGreatDoor
