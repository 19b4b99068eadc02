/- Properties that are expanded: Get; loading with expansion. -/
import Derived.Test.YtackciefmdiphaaDoorExpP
set_option linter.unusedVariables false
namespace Go.Proofs.YtackciefmdiphaaDoor
open Go.RowKit Plain Go.Maps

theorem lp_cells {B pb mb mc n nc : Nat} {p : PSt} {DC : DataW Value} {lv : Value} {dis : Bool} {w : World} (h : LP B pb mb mc n nc p DC lv dis w) :
    w.cell? ⟨pb, 0, none⟩ = some (.string ⟨#[36, 123]⟩) ∧ w.cell? ⟨pb, 1, none⟩ = some (.string ⟨#[125]⟩) ∧ w.cell? ⟨pb, 2, none⟩ = some (.bool dis) ∧ w.cell? ⟨pb, 3, none⟩ = some (.map (some mb)) := by
  have hb := h.blk
  simp [World.cell?, hb]
set_option maxRecDepth 100000 in
/-- a look-up in properties that are expanded -/
theorem getE_any (B pb mb mc n nc f : Nat) (p : PSt) (DC : DataW Value) (lv : Value) (k r : ByteArray) (w : World) (h : LP B pb mb mc n nc p DC lv false w) (hk : k.size ≤ 2147483647) (hhas : Maps.has p.D (keyL8 k) = true) (hex : expF (rawOf p.D) f [k] (rawOf p.D k) = some (some r)) :
    Calls Tryd.prog 13 #[.pointer (some ⟨pb, 0, none⟩), .string k] w fun e w' => e = .returned (.tuple #[.string r, .bool true]) ∧ Below w.heap.size w w' := by
  obtain ⟨c0, c1, c2, c3⟩ := lp_cells h
  have HM := Lib.hid h.mp
  have hkm : k.size ≤ maxLen := by unfold maxLen; omega
  have HPX := Lib.hid (pexp_any p.D pb mb n f k (rawOf p.D k) (some r) w c0 c1 c3 h.mp hex)
  obtain ⟨R, hR⟩ : ∃ R, rawOf p.D k = R := ⟨_, rfl⟩
  rw [hR] at HPX
  have HRR := Lib.hid hR
  have HH : Hid (Maps.has p.D (.string k.data.toList) = true) := Lib.hid hhas
  clear h hex hR hhas
  go_enter Tryd.func13, Tryd.ntmps13
  go_wp2_with (at_lookup; refine wpList_lookup_own_ok _ rfl _ _ 45 rfl 9 9 lawS Tryd.underlying45 (plainElem Tryd.prog 9) (zeroS _) (.lit (.string [])) [] (plainElem_string Tryd.underlying9 (by unfold maxLen; decide)) mb n p.D rfl HM.out _ _ rfl (WideMaps.keyOf_string_mk Tryd.underlying9 hkm) ?_)
  intro v ps hv
  obtain ⟨s, rfl, hz, hs⟩ := plainElem_string_inv Tryd.underlying9 hv
  have hrs : R = s := HRR.out.symm.trans (rawOf_of (congrArg Prod.fst hz))
  subst hrs
  rw [HH.out]
  clear hv hz hs
  go_wp2_with (go_at_call 19; (with_reducible refine HPX.out.mono ?_); rintro e w2 ⟨hb2, rfl⟩; have HB2 := Lib.hid hb2; clear hb2; dsimp only)
  go_ret2
  exact ⟨rfl, HB2.out⟩
/-- what loading with expansion gives -/
def LdPostE (o : Option PSt) (ek : ByteArray → Option ByteArray) (w : World) (e : Ending) (w' : World) : Prop :=
  Below w.heap.size w w' ∧ match o with
  | some p => (∃ pb mb mc n nc DC lv, e = .returned (.tuple #[.pointer (some ⟨pb, 0, none⟩), .nilIface]) ∧ LP w.heap.size pb mb mc n nc p DC lv false w' ∧ ∀ k, Maps.has p.D (keyL8 k) = true → (ek k).isSome = true) ∨ (∃ q N k, e = .returned (.tuple #[.pointer q, .iface 85 (.pointer (some ⟨N, 0, none⟩))]) ∧ Maps.has p.D (keyL8 k) = true ∧ ek k = none)
  | none => ∃ N : Nat, e = .returned (.tuple #[.pointer none, .iface 85 (.pointer (some ⟨N, 0, none⟩))])
set_option maxHeartbeats 2000000 in
set_option maxRecDepth 100000 in
/-- loading with expansion -/
theorem loadBytes_exp (s : ByteArray) (lb b c : Nat) (w : World) (hs : s.size ≤ 100000) (hsc : s.size ≤ c) (hT : Tabs w) (c1 : w.cell? ⟨lb, 1, none⟩ = some (.bool false)) (hc : ∀ i, i < s.size → w.cell? ⟨b, i, none⟩ = some (.int .u8 ((numsB s).getD i 0))) (o : Option PSt) (ho : parL (lexL (unbom s)) [] pst0 = o) (ek : ByteArray → Option ByteArray) (hek : ∀ p, o = some p → ExpAll p.D ek) :
    Calls Tryd.prog 10 #[.pointer (some ⟨lb, 0, none⟩), .slice (some ⟨b, 0, none⟩) s.size c, .int .u64 1] w (LdPostE o ek w) := by
  have hll := Lib.lt_of_cell c1
  obtain ⟨o', htr, ho'⟩ := trim_bom s b c
  obtain ⟨W, hW⟩ : ∃ W, w.alloc (.cells #[.int .u8 239, .int .u8 187, .int .u8 191] 5) = W := ⟨_, rfl⟩
  have hbW : Below w.heap.size w W := hW ▸ (Below.refl _ w).alloc (Nat.le_refl _) _
  have HTR := Lib.hid (trim_any (some ⟨b, 0, none⟩) (some ⟨w.heap.size, 0, none⟩) s.size c 3 3 (numsB s) [239, 187, 191] W (numsB_len s) rfl hsc (fun h0 => ⟨b, 0, rfl, fun i hi => by
    rw [Nat.zero_add]
    have h1 := hc i hi
    exact (hbW.cell (Lib.lt_of_cell h1)).trans h1⟩) (fun _ => ⟨w.heap.size, 0, rfl, fun i hi => by
    have h9 : W.heap[w.heap.size]? = _ := hW ▸ heap_alloc_new w _
    simp only [World.cell?, h9]
    match i, hi with
    | 0, _ => rfl
    | 1, _ => rfl
    | 2, _ => rfl⟩))
  rw [htr] at HTR
  have HCV := Lib.hid (convert_any b o' (s.size - bomK s) (c - bomK s) ((numsB s).drop (bomK s)) 1 W (by rw [List.length_drop, numsB_len]) (.inr rfl) (fun i hi => by
    have h1 := hc (bomK s + i) (by omega)
    rw [ho' (by omega) hsc]
    rw [(hbW.cell (Lib.lt_of_cell h1)).trans h1]
    simp [List.getD]))
  rw [strOfNums_drop] at HCV
  have HPA := Lib.hid (parse_any (unbom s) W (Nat.le_trans (unbom_size s) hs) (hT.below hbW) o ho)
  have d1 : ∀ y, Below w.heap.size w y → y.cell? ⟨lb, 1, none⟩ = some (.bool false) := fun y hy => (hy.cell hll).trans c1
  have HD1 := Lib.hid d1
  have HBW := Lib.hid hbW
  have hWs : W.heap.size = w.heap.size + 1 := by rw [← hW]; simp
  have HWW := Lib.hid hW
  obtain ⟨n1, hn1⟩ : ∃ n1, s.size - bomK s = n1 := ⟨_, rfl⟩
  obtain ⟨k1, hk1⟩ : ∃ n1, c - bomK s = n1 := ⟨_, rfl⟩
  obtain ⟨n0, hn0⟩ : ∃ n1, s.size = n1 := ⟨_, rfl⟩
  rw [hn1, hk1] at HTR HCV
  rw [hn0] at HTR ⊢
  change Hid (Calls _ _ _ _ fun e w' => e = .returned (.string (unbom s)) ∧ _) at HCV
  obtain ⟨U, hU⟩ : ∃ U, unbom s = U := ⟨_, rfl⟩
  rw [hU] at HCV HPA
  clear hc htr ho' d1 hbW hW hn1 hk1 hn0 hU hT c1
  cases o with
  | none =>
    go_enter Tryd.func10, Tryd.ntmps10
    go_wp2_with (first
      | (go_at_call 15; rw [HWW.out]; (with_reducible refine HTR.out.mono ?_); rintro e w1 ⟨rfl, rfl⟩; dsimp only)
      | (go_at_call 17; (with_reducible refine HCV.out.mono ?_); rintro e w1 ⟨rfl, rfl⟩; dsimp only)
      | (go_at_call 16; (with_reducible refine HPA.out.mono ?_); rintro e w2 ⟨P, N, rfl, hb2⟩; have HB2 := Lib.hid hb2; clear hb2; dsimp only))
    go_ret2
    exact ⟨bthen HBW.out HB2.out, N, rfl⟩
  | some p =>
    have HEK := Lib.hid (hek p rfl)
    go_enter Tryd.func10, Tryd.ntmps10
    go_wp2_with (first
      | (go_at_call 15; rw [HWW.out]; (with_reducible refine HTR.out.mono ?_); rintro e w1 ⟨rfl, rfl⟩; dsimp only)
      | (go_at_call 17; (with_reducible refine HCV.out.mono ?_); rintro e w1 ⟨rfl, rfl⟩; dsimp only)
      | (go_at_call 16; (with_reducible refine HPA.out.mono ?_); rintro e w2 ⟨pb, mb, mc, n, nc, DC, lv, rfl, hpq, hcr, hb2⟩; have HB2 := Lib.hid hb2; have hlp5 := LP.of false hpq hcr; have HLP5 := Lib.hid hlp5; obtain ⟨g0, g1, g2, g3⟩ := lp_cells hlp5; have HCK := Lib.hid (check_any p.D ek pb mb n (w2.setCell ⟨pb, 2, none⟩ (.bool false)) g0 g1 g3 hlp5.mp HEK.out); have HLO := Lib.hid hpq.lo.1; have e1 := HD1.out w2 (bthen HBW.out hb2); obtain ⟨_, _, _, _, f2, _⟩ := seven_cells hpq.blk; clear hb2 hpq hcr hlp5 g0 g1 g3; dsimp only)
      | (go_at_call 18; (with_reducible refine HCK.out.mono ?_); rintro e w5 ⟨hb5, ⟨rfl, hall⟩ | ⟨N, k, rfl, hk1, hk2⟩⟩ <;> have HB5 := Lib.hid hb5 <;> clear hb5 <;> dsimp only))
    · have hsz := HBW.out.size
      have hb25 := (bthen HBW.out HB2.out).setCell (p := ⟨pb, 2, none⟩) (Nat.le_trans hsz HLO.out) (.bool false)
      have hb := bthen hb25 HB5.out
      go_ret2
      exact ⟨hb, .inl ⟨pb, mb, mc, n, nc, DC, lv, rfl, (HLP5.out.below HB5.out).base hsz, hall⟩⟩
    · have hsz := HBW.out.size
      have hb25 := (bthen HBW.out HB2.out).setCell (p := ⟨pb, 2, none⟩) (Nat.le_trans hsz HLO.out) (.bool false)
      have hb := bthen hb25 HB5.out
      go_ret2
      exact ⟨hb, .inr ⟨_, N, k, rfl, hk1, hk2⟩⟩
set_option maxRecDepth 100000 in
theorem loadBytesU_exp (s : ByteArray) (lb b c : Nat) (w : World) (hs : s.size ≤ 100000) (hsc : s.size ≤ c) (hT : Tabs w) (c0 : w.cell? ⟨lb, 0, none⟩ = some (.int .u64 1)) (c1 : w.cell? ⟨lb, 1, none⟩ = some (.bool false)) (hc : ∀ i, i < s.size → w.cell? ⟨b, i, none⟩ = some (.int .u8 ((numsB s).getD i 0))) (o : Option PSt) (ho : parL (lexL (unbom s)) [] pst0 = o) (ek : ByteArray → Option ByteArray) (hek : ∀ p, o = some p → ExpAll p.D ek) :
    Calls Tryd.prog 8 #[.pointer (some ⟨lb, 0, none⟩), .slice (some ⟨b, 0, none⟩) s.size c] w (LdPostE o ek w) := by
  have HLB := Lib.hid (loadBytes_exp s lb b c w hs hsc hT c1 hc o ho ek hek)
  obtain ⟨n0, hn0⟩ : ∃ n1, s.size = n1 := ⟨_, rfl⟩
  rw [hn0] at HLB ⊢
  clear hc hT c1 hs hsc hn0 ho hek
  cases o with
  | none =>
    go_enter Tryd.func8, Tryd.ntmps8
    go_wp2_with (go_at_call 10; (with_reducible refine HLB.out.mono ?_); rintro e w2 ⟨hb2, N, rfl⟩; have HB2 := Lib.hid hb2; clear hb2; dsimp only)
    go_ret2
    exact ⟨HB2.out, N, rfl⟩
  | some p =>
    go_enter Tryd.func8, Tryd.ntmps8
    go_wp2_with (go_at_call 10; (with_reducible refine HLB.out.mono ?_); rintro e w2 ⟨hb2, ⟨pb, mb, mc, n, nc, DC, lv, rfl, hlp, hall⟩ | ⟨q, N, k, rfl, hk1, hk2⟩⟩ <;> have HB2 := Lib.hid hb2 <;> clear hb2 <;> dsimp only)
    · go_ret2
      exact ⟨HB2.out, .inl ⟨pb, mb, mc, n, nc, DC, lv, rfl, hlp, hall⟩⟩
    · go_ret2
      exact ⟨HB2.out, .inr ⟨q, N, k, rfl, hk1, hk2⟩⟩
def LpPostE (o : Option PSt) (ek : ByteArray → Option ByteArray) (w : World) (e : Ending) (w' : World) : Prop :=
  Below w.heap.size w w' ∧ match o with
  | none => e = .returned (.tuple #[.slice none 0 0, .bool false])
  | some p => (∃ v, e = .returned (.tuple #[v, .bool true]) ∧ PRow w.heap.size v (p.ks.map (dataOf p (fun k => (ek k).getD ⟨#[]⟩))) w' ∧ ∀ k, Maps.has p.D (keyL8 k) = true → (ek k).isSome = true) ∨ (e = .returned (.tuple #[.slice none 0 0, .bool false]) ∧ ∃ k, Maps.has p.D (keyL8 k) = true ∧ ek k = none)
theorem props_exp (B pb mb mc n nc : Nat) (p : PSt) (DC : DataW Value) (lv : Value) (ek : ByteArray → Option ByteArray) (w : World) (hlp : LP B pb mb mc n nc p DC lv false w) (hbd : PBd 1000000 1000000 p) (hek : ExpAll p.D ek) (hall : ∀ k, Maps.has p.D (keyL8 k) = true → (ek k).isSome = true) :
    Calls Tryd.prog 9 #[.pointer (some ⟨pb, 0, none⟩)] w (PropsPost (p.ks.map (dataOf p (fun k => (ek k).getD ⟨#[]⟩))) w) :=
  props_any B pb mb mc (Maps.size p.D) nc p DC lv false (fun k => (ek k).getD ⟨#[]⟩) w ⟨hlp.blk, mp_size hlp.mp, hlp.cp, hlp.row, hlp.cr, hlp.lo⟩ (by have := hbd.dn; omega) (by have := hbd.kn; omega) (fun k hk => by have := hbd.keys k hk; omega) (fun k l hl => by have := hbd.cn k l hl; omega) (fun k hk wr hwr => by
    obtain ⟨f, hf⟩ := hek k (hbd.has k hk)
    obtain ⟨r, hr⟩ := Option.isSome_iff_exists.1 (hall k (hbd.has k hk))
    rw [hr] at hf
    refine (getE_any B pb mb mc n nc f p DC lv k r wr (hlp.below hwr) (by have := hbd.keys k hk; omega) (hbd.has k hk) hf).mono ?_
    rintro e w' ⟨rfl, hb⟩
    dsimp only
    rw [hr]
    exact ⟨true, rfl, hb⟩)
set_option maxHeartbeats 2000000 in
set_option maxRecDepth 100000 in
theorem loadProps_exp (s : ByteArray) (w : World) (hs : s.size ≤ 100000) (hT : Tabs w) (o : Option PSt) (ho : parL (lexL (unbom s)) [] pst0 = o) (ek : ByteArray → Option ByteArray) (hek : ∀ p, o = some p → ExpAll p.D ek) :
    Calls Tryd.prog 6 #[.string s, .int .i64 1, .bool false] w (LpPostE o ek w) := by
  obtain ⟨W1, hW1⟩ : ∃ W, w.alloc (.cells #[.int .u64 1, .bool false, .bool false] 35) = W := ⟨_, rfl⟩
  have hb1 : Below w.heap.size w W1 := hW1 ▸ (Below.refl _ w).alloc (Nat.le_refl _) _
  have hs1 : W1.heap.size = w.heap.size + 1 := by rw [← hW1]; simp
  have hblk : W1.heap[w.heap.size]? = _ := hW1 ▸ heap_alloc_new w _
  obtain ⟨W2, hW2⟩ : ∃ W, Lib.bytesWorld W1 5 s = W := ⟨_, rfl⟩
  have hb2 : Below W1.heap.size W1 W2 := hW2 ▸ ⟨rfl, rfl, rfl, by rw [Lib.bytesWorld_size]; omega, fun j hj => Lib.bytesWorld_at_old W1 5 s j hj⟩
  obtain ⟨cap, hcap⟩ : ∃ c, grownCap W1 s.size 0 5 = c := ⟨_, rfl⟩
  have hcv := Lib.run_convert_string_bytes (P := Tryd.prog) W1 9 41 5 s Tryd.underlying9 Tryd.underlying41 Tryd.underlying5
  rw [hW2, hcap, hs1] at hcv
  have hcell : ∀ i, i < s.size → W2.cell? ⟨w.heap.size + 1, i, none⟩ = some (.int .u8 ((numsB s).getD i 0)) := fun i hi => by
    have := numsB_cell s W1 i hi
    rwa [hW2, hs1] at this
  have hblk2 : W2.heap[w.heap.size]? = _ := (hb2.block _ (by omega)).trans hblk
  have hb02 := bthen hb1 hb2
  have HLB := Lib.hid (loadBytesU_exp s w.heap.size (w.heap.size + 1) cap W2 hs (hcap ▸ grownCap_ge _ _ _ _) (hT.below hb02) (by simp [World.cell?, hblk2]) (by simp [World.cell?, hblk2]) hcell o ho ek hek)
  have HB02 := Lib.hid hb02
  have HW1 := Lib.hid hW1
  obtain ⟨n0, hn0⟩ : ∃ n1, s.size = n1 := ⟨_, rfl⟩
  rw [hn0] at hcv HLB
  have HBD : Hid (∀ p, o = some p → PBd 1000000 1000000 p) := Lib.hid (fun p hp => parL_small (unbom s) p (Nat.le_trans (unbom_size s) hs) (hp ▸ ho))
  clear hb1 hblk hb2 hcap hcell hblk2 hb02 hW1 hW2 hn0 hs hT ho hs1
  unfold LpPostE
  cases o with
  | none =>
    go_enter Tryd.func6, Tryd.ntmps6
    go_wp2_with (first
      | (rw [HW1.out])
      | (go_at_call 8; (with_reducible refine HLB.out.mono ?_); rintro e w3 ⟨hb3, N, rfl⟩; have HB3 := Lib.hid hb3; clear hb3; dsimp only))
    go_ret2
    exact ⟨bthen HB02.out HB3.out, rfl⟩
  | some p =>
    have hbd := HBD.out p rfl
    have HEK := Lib.hid (hek p rfl)
    go_enter Tryd.func6, Tryd.ntmps6
    go_wp2_with (first
      | (rw [HW1.out])
      | (go_at_call 8; (with_reducible refine HLB.out.mono ?_); rintro e w3 ⟨hb3, ⟨pb, mb, mc, n, nc, DC, lv, rfl, hlp, hall⟩ | ⟨q, N, k, rfl, hk1, hk2⟩⟩ <;> have HB3 := Lib.hid hb3 <;> clear hb3 <;> dsimp only)
      | (go_at_call 9; (with_reducible refine (props_exp W2.heap.size pb mb mc n nc p DC lv ek w3 hlp hbd HEK.out hall).mono ?_); rintro e w4 ⟨v, rfl, hv, hb4⟩; have HB4 := Lib.hid hb4; have HV := Lib.hid hv; clear hb4 hv; dsimp only))
    · go_ret2
      have hb03 := bthen HB02.out HB3.out
      exact ⟨bthen hb03 HB4.out, .inl ⟨v, rfl, HV.out.base hb03.size, hall⟩⟩
    · go_ret2
      exact ⟨bthen HB02.out HB3.out, .inr ⟨rfl, k, hk1, hk2⟩⟩
end Go.Proofs.YtackciefmdiphaaDoor
