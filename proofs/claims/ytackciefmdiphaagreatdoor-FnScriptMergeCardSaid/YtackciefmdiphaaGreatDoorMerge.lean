/- Merge into properties that are empty. -/
import Derived.Test.YtackciefmdiphaaGreatDoorLoadB0
import Derived.Test.YtackciefmdiphaaGreatDoorEqPr
set_option linter.unusedVariables false
namespace Go.Proofs.YtackciefmdiphaaGreatDoor
open Go.RowKit Plain Go.Maps

/-- the step of a range over a map of comments -/
theorem next_sr (w : World) {ops : Array Oper} {rest : List Oper} {o : Oper} {a : Act} {Q : Exit → Act → World → Prop}
    (hg : o.guard = none) (it : Operand) (hop : o.op = Op.next it false)
    (b r n : Nat) (D : DataW Value) (left : Lit → Bool) (cnt : Nat) (hit : a.eval it = .pointer (some ⟨r, 0, none⟩)) (h : w.ranges Tryz.prog 9 rawR b r n D left cnt)
    (hDone : cnt = 0 → (∀ kl, left kl = false) → wpList Tryz.prog ops Q rest (a.put o.dst (.tuple #[.bool false])) w)
    (hMore : ∀ (x : ByteArray) (c : Value) (w' : World) (cnt' : Nat), x.size ≤ maxLen → left (keyL8 x) = true → (∀ zd, D.atKey (keyL8 x) zd = .held c) → w'.ranges Tryz.prog 9 rawR b r n D (fun z => left z && !z.sameKey (keyL8 x)) cnt' → cnt' < cnt →
      w.grownBy w' (some r) → w'.heap.size = w.heap.size → (Instr.entry (.pointer (some ⟨r, 0, none⟩))).run Tryz.prog w' = .ok (.tuple #[.string x, c]) w' → wpList Tryz.prog ops Q rest (a.put o.dst (.tuple #[.bool true, .string x, c])) w') :
    wpList Tryz.prog ops Q (o :: rest) a w :=
  wpList_next_ranges w hg it hop 9 lawS rawR Value.string id (fun key kl hkey => by obtain ⟨x, rfl, _⟩ := str_key_inv hkey; exact ⟨x, rfl⟩) (fun v y hv => ⟨v, rfl⟩)
    b r n D left cnt hit h hDone (fun x c kl y w' cnt' hkey hlk hv hat hrg hlt hgr hsz hen => by
      obtain ⟨x', ex, rfl, hwx⟩ := str_key_inv hkey
      cases ex
      unfold rawR at hv
      injection hv with hv
      have hy : y.1 = .held c := by rw [← hv]; rfl
      exact hMore x c w' cnt' hwx hlk (fun zd => (hat zd).trans hy) hrg hlt hgr hsz hen)
theorem slq_one {w : World} {B n sz : Nat} {e : TypeId} {v : Value} {xs : List Value} (h : w.ownsRow B e sz v (n + 1) xs) : ∃ g cap, v = .slice (some ⟨g, 0, none⟩) (n + 1) cap := by
  rcases h.2 with ⟨_, h0⟩ | ⟨g, cap, cur, hv, _⟩
  · omega
  · exact ⟨g, cap, hv⟩
theorem mpc_max {w : World} {mc n : Nat} {D : DataW Value} (h : MpC w mc n D) : Maps.size D ≤ maxLen := by
  obtain ⟨es, clock, hb, F, hs, rfl⟩ := h
  have := F.size
  simpa [Maps.size, length_sorted] using this
/-- the properties that are merged into -/
structure TG (B pb mb mc nD nC : Nat) (ks : List ByteArray) (D : DataW Unit) (DC : DataW Value) (lv : Value) (w : World) : Prop where
  blk : w.heap[pb]? = some (.cells #[.string ⟨#[36, 123]⟩, .string ⟨#[125]⟩, .bool true, .map (some mb), .map (some mc), lv, .string ⟨#[]⟩] 86 (0, 0))
  mp : MpS w mb nD D
  cp : MpC w mc nC DC
  row : w.ownsRow B 9 1 lv ks.length (ks.map Value.string)
  lo : B ≤ pb ∧ B ≤ mb ∧ B ≤ mc ∧ mb ≠ mc
/-- nothing but the target turns -/
structure KP (B B2 Z : Nat) (lv : Value) (w wr : World) : Prop where
  bel : Below B w wr
  mid : ∀ j, B2 ≤ j → j < Z → wr.heap[j]? = w.heap[j]?
  lvb : ∀ g, lv.ownBlock = some g → g < B2 ∨ Z ≤ g
theorem tg_cells {B pb mb mc nD nC : Nat} {ks : List ByteArray} {D : DataW Unit} {DC : DataW Value} {lv : Value} {w : World} (h : TG B pb mb mc nD nC ks D DC lv w) :
    w.cell? ⟨pb, 3, none⟩ = some (.map (some mb)) ∧ w.cell? ⟨pb, 4, none⟩ = some (.map (some mc)) ∧ w.cell? ⟨pb, 5, none⟩ = some lv ∧ w.frozen? ⟨pb, 5, none⟩ = false := by
  have hb := h.blk
  simp [World.cell?, World.frozen?, hb]
theorem TG.keep {B pb mb mc nD nC : Nat} {ks : List ByteArray} {D : DataW Unit} {DC : DataW Value} {lv : Value} {w w' : World} (h : TG B pb mb mc nD nC ks D DC lv w) (hp : w'.heap[pb]? = w.heap[pb]?) (hm : w'.heap[mb]? = w.heap[mb]?) (hc : w'.heap[mc]? = w.heap[mc]?) (hl : ∀ g, lv.ownBlock = some g → w'.heap[g]? = w.heap[g]?) : TG B pb mb mc nD nC ks D DC lv w' :=
  ⟨hp.trans h.blk, mp_keep h.mp hm, mpc_keep h.cp hc, row_keep h.row hl, h.lo⟩
theorem TG.below {B pb mb mc nD nC : Nat} {ks : List ByteArray} {D : DataW Unit} {DC : DataW Value} {lv : Value} {w w' : World} (h : TG B pb mb mc nD nC ks D DC lv w) (hb : Below w.heap.size w w') : TG B pb mb mc nD nC ks D DC lv w' :=
  h.keep (hb.block pb (lt_of_block h.blk)) (hb.block mb (map_lt (mp_is h.mp))) (hb.block mc (map_lt (mpc_is h.cp))) (fun g hg => hb.block g (row_lt h.row hg).2)
theorem tg_app {B pb mb mc nD nC : Nat} {ks : List ByteArray} {D : DataW Unit} {DC : DataW Value} {lv : Value} {w w6 : World} {o : Obj} (h : TG B pb mb mc nD nC ks D DC lv w) (hg : (w.alloc o).grownBy w6 lv.ownBlock) :
    (∀ j, j < w.heap.size → (∀ g, lv.ownBlock = some g → j ≠ g) → w6.heap[j]? = w.heap[j]?) ∧ w6.heap[pb]? = some (.cells #[.string ⟨#[36, 123]⟩, .string ⟨#[125]⟩, .bool true, .map (some mb), .map (some mc), lv, .string ⟨#[]⟩] 86 (0, 0)) ∧ w6.cell? ⟨pb, 5, none⟩ = some lv ∧ w6.frozen? ⟨pb, 5, none⟩ = false ∧ w.heap.size + 1 ≤ w6.heap.size := by
  have h1 : ∀ j, j < w.heap.size → (∀ g, lv.ownBlock = some g → j ≠ g) → w6.heap[j]? = w.heap[j]? := fun j hj hne => (hg.block j (by simp; omega) (fun e => hne j e.symm rfl)).trans (Below.heap_alloc w _ _ hj)
  have h2 := (h1 pb (lt_of_block h.blk) (fun g hg e => by
    subst e
    obtain ⟨cs, h9⟩ := row_cells h.row hg
    rw [h.blk] at h9
    injection h9 with h9
    injection h9 with _ h9
    exact absurd h9 (by decide))).trans h.blk
  have h3 := hg.size
  have h4 : (w.alloc o).heap.size = w.heap.size + 1 := by simp
  exact ⟨h1, h2, by simp [World.cell?, h2], by simp [World.frozen?, h2], by omega⟩
theorem ranges_iter {H : Type} {w : World} {R : Value → Option (DataW H × List MemPlace)} {b r n : Nat} {D : DataW H} {left : Lit → Bool} {cnt : Nat} (h : w.ranges Tryz.prog 9 R b r n D left cnt) : ∃ x y z u, w.heap[r]? = some (.mapIter x y z u) := by
  obtain ⟨es, clock, since, seen, c0, _, _, _, _, hr, _⟩ := h
  exact ⟨_, _, _, _, hr⟩
theorem TG.iter {B pb mb mc nD nC : Nat} {ks : List ByteArray} {D : DataW Unit} {DC : DataW Value} {lv : Value} {w w' : World} {r : Nat} (h : TG B pb mb mc nD nC ks D DC lv w) (hr : ∃ x y z u, w.heap[r]? = some (.mapIter x y z u)) (hg : w.grownBy w' (some r)) : TG B pb mb mc nD nC ks D DC lv w' := by
  obtain ⟨x, y, z, u, hr⟩ := hr
  have hk : ∀ j, j < w.heap.size → j ≠ r → w'.heap[j]? = w.heap[j]? := fun j hj hne => hg.block j hj (fun e => hne (Option.some.inj e))
  refine h.keep (hk pb (lt_of_block h.blk) (fun e => ?_)) (hk mb (map_lt (mp_is h.mp)) (fun e => ?_)) (hk mc (map_lt (mpc_is h.cp)) (fun e => ?_)) (fun g hg' => hk g (row_lt h.row hg').2 (fun e => ?_))
  · have h8 := h.blk; rw [e, hr] at h8; injection h8 with h8; exact Obj.noConfusion h8
  · obtain ⟨es, c, h8⟩ := mp_is h.mp; rw [e, hr] at h8; injection h8 with h8; exact Obj.noConfusion h8
  · obtain ⟨es, c, h8⟩ := mpc_is h.cp; rw [e, hr] at h8; injection h8 with h8; exact Obj.noConfusion h8
  · obtain ⟨cs, h8⟩ := row_cells h.row hg'; rw [e, hr] at h8; injection h8 with h8; exact Obj.noConfusion h8
theorem TG.putD {B pb mb mc nD nC nD' : Nat} {ks : List ByteArray} {D D' : DataW Unit} {DC : DataW Value} {lv : Value} {w w' : World} (h : TG B pb mb mc nD nC ks D DC lv w) (hm : MpS w' mb nD' D') (hg : w.grownBy w' (some mb)) : TG B pb mb mc nD' nC ks D' DC lv w' := by
  have hk : ∀ j, j < w.heap.size → j ≠ mb → w'.heap[j]? = w.heap[j]? := fun j hj hne => hg.block j hj (fun e => hne (Option.some.inj e))
  obtain ⟨es, c, hmb⟩ := mp_is h.mp
  refine ⟨(hk pb (lt_of_block h.blk) (fun e => ?_)).trans h.blk, hm, mpc_keep h.cp (hk mc (map_lt (mpc_is h.cp)) (fun e => h.lo.2.2.2 e.symm)), row_keep h.row (fun g hg' => hk g (row_lt h.row hg').2 (fun e => ?_)), h.lo⟩
  · have h8 := h.blk; rw [e, hmb] at h8; injection h8 with h8; exact Obj.noConfusion h8
  · obtain ⟨cs, h8⟩ := row_cells h.row hg'; rw [e, hmb] at h8; injection h8 with h8; exact Obj.noConfusion h8
theorem TG.putC {B pb mb mc nD nC nC' : Nat} {ks : List ByteArray} {D : DataW Unit} {DC DC' : DataW Value} {lv : Value} {w w' : World} (h : TG B pb mb mc nD nC ks D DC lv w) (hm : MpC w' mc nC' DC') (hg : w.grownBy w' (some mc)) : TG B pb mb mc nD nC' ks D DC' lv w' := by
  have hk : ∀ j, j < w.heap.size → j ≠ mc → w'.heap[j]? = w.heap[j]? := fun j hj hne => hg.block j hj (fun e => hne (Option.some.inj e))
  obtain ⟨es, c, hmb⟩ := mpc_is h.cp
  refine ⟨(hk pb (lt_of_block h.blk) (fun e => ?_)).trans h.blk, mp_keep h.mp (hk mb (map_lt (mp_is h.mp)) (fun e => h.lo.2.2.2 e)), hm, row_keep h.row (fun g hg' => hk g (row_lt h.row hg').2 (fun e => ?_)), h.lo⟩
  · have h8 := h.blk; rw [e, hmb] at h8; injection h8 with h8; exact Obj.noConfusion h8
  · obtain ⟨cs, h8⟩ := row_cells h.row hg'; rw [e, hmb] at h8; injection h8 with h8; exact Obj.noConfusion h8
theorem KP.grown {B B2 Z : Nat} {lv : Value} {w wr w' : World} {row : Option Nat} (h : KP B B2 Z lv w wr) (hg : wr.grownBy w' row) (hz : Z ≤ wr.heap.size) (hb : B ≤ wr.heap.size) (hrow : ∀ j, row = some j → (B ≤ j ∧ j < B2) ∨ (Z ≤ j ∧ B ≤ j)) : KP B B2 Z lv w w' :=
  ⟨h.bel.grown hg hb (fun j hj => by rcases hrow j hj with h | h <;> omega), fun j h1 h2 => (hg.block j (by omega) (fun e => by rcases hrow j e.symm with h | h <;> omega)).trans (h.mid j h1 h2), h.lvb⟩
theorem MpS.mid {w wr : World} {mb n : Nat} {D : DataW Unit} {B B2 Z : Nat} {lv : Value} (h : MpS w mb n D) (k : KP B B2 Z lv w wr) (h1 : B2 ≤ mb) (h2 : mb < Z) : MpS wr mb n D := mp_keep h (k.mid mb h1 h2)
set_option maxHeartbeats 8000000 in
set_option maxRecDepth 100000 in
theorem merge_any (B1 B2 pb mb mc ob omb omc n nc : Nat) (p : PSt) (DC : DataW Value) (lv lo : Value) (w : World) (hT : TG B1 pb mb mc 0 0 [] (.map []) (.map []) lv w) (hL : LP B2 ob omb omc n nc p DC lo true w) (hap : pb < B2 ∧ mb < B2 ∧ mc < B2 ∧ ∀ g, lv.ownBlock = some g → g < B2) (hB : B1 ≤ B2) (hd : n ≤ 1000000) (hks : p.ks.length ≤ 1000000) (hsz : ∀ k ∈ p.ks, k.size ≤ 1000000) :
    Calls Tryz.prog 71 #[.pointer (some ⟨pb, 0, none⟩), .pointer (some ⟨ob, 0, none⟩)] w fun e w' => e = .returned (.tuple #[]) ∧ ∃ lv', LP B1 pb mb mc n nc p DC lv' true w' ∧ Below B1 w w' ∧ ∀ j, B2 ≤ j → j < w.heap.size → w'.heap[j]? = w.heap[j]? := by
  obtain ⟨ad, ocap, rfl⟩ := slq_any hL.row
  obtain ⟨i0, hi, hz0, hz1, hz2⟩ := info_parts infoStr
  obtain ⟨N, hN⟩ : ∃ N, p.ks.length = N := ⟨_, rfl⟩
  have o5 : w.cell? ⟨ob, 5, none⟩ = some (.slice ad N ocap) := by
    have hb := hL.blk
    rw [hN] at hb
    simp [World.cell?, hb]
  have HT := Lib.hid hT
  have HL := Lib.hid hL
  have HAP := Lib.hid hap
  have HN := Lib.hid hN
  rw [hN] at hks
  clear hT hL hap hN
  go_enter Tryz.func71, Tryz.ntmps71
  go_wp2
  clear o5
  obtain ⟨Z, hZ⟩ : ∃ Z, w.heap.size = Z := ⟨_, rfl⟩
  have HZ := Lib.hid hZ
  clear hZ
  go_loopg [17] N (fun g' v17 wr => ∃ (i : Nat) (lv' : Value), v17 = .int .i64 (i : Int) ∧ i ≤ N ∧ g' = N - i ∧ Hid (TG B1 pb mb mc 0 0 (p.ks.take i) (.map []) (.map []) lv' wr) ∧ Hid (KP B1 B2 Z lv' w wr) ∧ Z ≤ wr.heap.size)
  case atStart => exact ⟨0, lv, rfl, Nat.zero_le _, rfl, HT, Lib.hid ⟨Below.refl _ _, fun j _ _ => rfl, fun g hg => .inl (HAP.out.2.2.2 g hg)⟩, Nat.le_of_eq HZ.out.symm⟩
  case round =>
    obtain ⟨i, lv', rfl, hin, rfl, HTG, HKP, hzw⟩ := hrel
    by_cases hlt : i < N
    · have hiz : (i : Int) < (N : Int) := by omega
      obtain ⟨og, rfl⟩ : ∃ g, ad = some ⟨g, 0, none⟩ := slq_pos HL.out.row (by have := HN.out; omega)
      obtain ⟨k, hk⟩ : ∃ k, p.ks[i]? = some k := ⟨_, List.getElem?_eq_getElem (by have := HN.out; omega)⟩
      have hkz := hsz k (List.mem_of_getElem? hk)
      have hkm : k.size ≤ maxLen := by unfold maxLen; omega
      have x0 : wr.cell? ⟨og, i, none⟩ = some (.string k) := by
        have hrw := row_keep HL.out.row (fun g hg => HKP.out.mid g (row_lt HL.out.row hg).1 (by have := (row_lt HL.out.row hg).2; have := HZ.out; omega))
        rw [hrw.cellAt i (by have := HN.out; omega)]
        simp [hk]
      obtain ⟨c3, c4, c5, f5⟩ := tg_cells HTG.out
      have HK := Lib.hid hk
      have hlt6 : (p.ks.take i).length = i := by rw [List.length_take, HN.out]; omega
      have HROW : Hid (wr.ownsRow B1 9 1 lv' i ((p.ks.take i).map Value.string)) := Lib.hid (by have := HTG.out.row; rwa [hlt6] at this)
      clear hk hlt6
      go_wp2_with (first
        | (at_lookup; refine wpList_lookup_own_ok _ rfl _ _ 83 rfl 9 9 lawS Tryz.underlying83 (plainElem Tryz.prog 9) (zeroS _) (.lit (.string [])) [] (plainElem_string Tryz.underlying9 (by unfold maxLen; decide)) mb 0 (.map []) rfl HTG.out.mp _ _ rfl (WideMaps.keyOf_string_mk Tryz.underlying9 hkm) ?_; intro v0 ps0 hv0; obtain ⟨s0, rfl, hz0', hs0'⟩ := plainElem_string_inv Tryz.underlying9 hv0; clear hv0 hz0'; rw [show Maps.has (DataW.map [] : DataW Unit) (.string k.data.toList) = false from rfl])
        | (at_builtin; refine wpList_append_own_at _ rfl _ _ 22 rfl B1 9 i0 (.string ⟨#[]⟩) 1 16 Tryz.underlying22 hi hz0 hz1 hz2 rfl (by decide) lv' i ((p.ks.take i).map Value.string) rfl (HROW.out.alloc _) ⟨wr.heap.size, 0, none⟩ 1 1 [.string k] rfl rfl (cell_one_new _ _ _) (by intro u hu; simp at hu; subst hu; rfl) (by unfold maxLen; omega) (by omega) (by have := HTG.out.lo.1; have := lt_of_block HTG.out.blk; simp; omega) ?_; intro v' w6 hown6 hgr6 hnil6 hat6; obtain ⟨g9, cap9, rfl⟩ := slq_one hown6; have HO6 := Lib.hid hown6; have HG6 := Lib.hid hgr6; have HA6 := Lib.hid hat6; obtain ⟨he6, hb6, d5, e5, hz6⟩ := tg_app HTG.out hgr6; have HE6 := Lib.hid he6; have HB6 := Lib.hid hb6; clear hown6 hgr6 hnil6 hat6 c3 c4 c5 f5 he6 hb6))
      have hlt6 : (p.ks.take i).length = i := by rw [List.length_take, HN.out]; omega
      have hks1 : p.ks.take (i + 1) = p.ks.take i ++ [k] := by rw [List.take_add_one, HK.out]; rfl
      have hne : ∀ {g : Nat} {c : Array Value}, w6.heap[g]? = some (.cells c 9 (0, 0)) → g ≠ pb := fun h1 e => by
        subst e
        rw [HB6.out] at h1
        injection h1 with h1
        injection h1 with _ h1
        exact absurd h1 (by decide)
      have hrow6 : w6.ownsRow B1 9 1 (.slice (some ⟨g9, 0, none⟩) (i + 1) cap9) (p.ks.take (i + 1)).length ((p.ks.take (i + 1)).map Value.string) := by
        rw [hks1, List.length_append, List.map_append, hlt6]
        exact HO6.out
      have hpm : ∀ {j : Nat}, (∃ es c, wr.heap[j]? = some (.map es c)) → w6.heap[j]? = wr.heap[j]? := fun {j} h => HE6.out j (map_lt h) (fun g hg e => by
        subst e
        obtain ⟨cs, h9⟩ := row_cells HTG.out.row hg
        obtain ⟨es, c, h⟩ := h
        rw [h] at h9
        cases h9)
      have hmp := hpm (mp_is HTG.out.mp)
      have hmc := hpm (mpc_is HTG.out.cp)
      have hsc : ∀ j, j ≠ pb → (w6.setCell ⟨pb, 5, none⟩ (.slice (some ⟨g9, 0, none⟩) (i + 1) cap9)).heap[j]? = w6.heap[j]? := fun j hj => Below.heap_setCell _ _ _ _ hj
      have hmne : ∀ {j : Nat}, (∃ es c, wr.heap[j]? = some (.map es c)) → j ≠ pb := fun h e => by
        subst e
        obtain ⟨es, c, h⟩ := h
        have h8 := HTG.out.blk
        rw [h] at h8
        injection h8 with h8
        exact Obj.noConfusion h8
      have HT2 : Hid (TG B1 pb mb mc 0 0 (p.ks.take (i + 1)) (.map []) (.map []) (.slice (some ⟨g9, 0, none⟩) (i + 1) cap9) (w6.setCell ⟨pb, 5, none⟩ (.slice (some ⟨g9, 0, none⟩) (i + 1) cap9))) := Lib.hid ⟨seven_set HB6.out 5, mp_keep HTG.out.mp ((hsc mb (hmne (mp_is HTG.out.mp))).trans hmp), mpc_keep HTG.out.cp ((hsc mc (hmne (mpc_is HTG.out.cp))).trans hmc), row_keep hrow6 (fun g hg => by obtain ⟨cs, h9⟩ := row_cells hrow6 hg; exact hsc g (hne h9)), HTG.out.lo⟩
      have HKP2 : Hid (KP B1 B2 Z (.slice (some ⟨g9, 0, none⟩) (i + 1) cap9) w (w6.setCell ⟨pb, 5, none⟩ (.slice (some ⟨g9, 0, none⟩) (i + 1) cap9))) := Lib.hid ⟨(HKP.out.bel.trans (((Below.refl B1 wr).alloc (by have := HTG.out.lo.1; have := lt_of_block HTG.out.blk; omega) _).grown HG6.out (by have := HTG.out.lo.1; have := lt_of_block HTG.out.blk; simp; omega) (fun g hg => (row_lt HTG.out.row hg).1))).setCell (p := ⟨pb, 5, none⟩) HTG.out.lo.1 _, fun j h1 h2 => (hsc j (by have := HAP.out.1; omega)).trans ((HE6.out j (by omega) (fun g hg e => by
        subst e
        rcases HKP.out.lvb _ hg with h | h <;> omega)).trans (HKP.out.mid j h1 h2)), fun g hg => by
        rcases HA6.out with h | h
        · rw [h] at hg; exact HKP.out.lvb g hg
        · rw [h] at hg; injection hg with hg; right; simp at hg; omega⟩
      have hzz : Z ≤ (w6.setCell ⟨pb, 5, none⟩ (.slice (some ⟨g9, 0, none⟩) (i + 1) cap9)).heap.size := by
        have h1 : (w6.setCell ⟨pb, 5, none⟩ (.slice (some ⟨g9, 0, none⟩) (i + 1) cap9)).heap.size = w6.heap.size := by simp [World.setCell]
        omega
      clear hks1 hne hrow6 hpm hmp hmc hsc hmne hlt6
      go_wp2
      go_roundg (N - (i + 1))
      case measure => omega
      case rel => exact ⟨i + 1, _, by go_num, by omega, rfl, HT2, HKP2, hzz⟩
    · have hiz : ¬ (i : Int) < (N : Int) := by omega
      obtain rfl : i = N := by omega
      have hwz := HZ.out
      obtain ⟨l1, l2, l3⟩ := HL.out.lo
      have z1 : ob < Z := by have := lt_of_block HL.out.blk; omega
      have z2 : omb < Z := by have := map_lt (mp_is HL.out.mp); omega
      have z3 : omc < Z := by have := map_lt (mpc_is HL.out.cp); omega
      have HTG1 : Hid (TG B1 pb mb mc 0 0 p.ks (.map []) (.map []) lv' wr) := Lib.hid (by
        have h9 := HTG.out
        rwa [List.take_of_length_le (Nat.le_of_eq HN.out)] at h9)
      have ob3 : ∀ y, KP B1 B2 Z lv' w y → y.cell? ⟨ob, 3, none⟩ = some (.map (some omb)) ∧ y.cell? ⟨ob, 4, none⟩ = some (.map (some omc)) := fun y hy => by
        have h9 := (hy.mid ob l1 z1).trans HL.out.blk
        simp [World.cell?, h9]
      have HOB := Lib.hid ob3
      have c3o := (ob3 wr HKP.out).1
      have hmr := HL.out.mp.mid HKP.out l2 z2
      have HMR := Lib.hid hmr
      have hsD := size_le_own hmr
      clear HTG ob3 hiz hin hlt hmr hwz
      obtain ⟨r1, hr1⟩ : ∃ r, wr.heap.size = r := ⟨_, rfl⟩
      have hr1z : Z ≤ r1 := by omega
      have HKP1 := Lib.hid HKP.out
      go_wp2_with (first
        | (at_range; refine wpList_range_own _ rfl _ 83 rfl 9 9 lawS Tryz.underlying83 _ omb n _ rfl HMR.out ?_; intro w0 hrg0 hg0 hs0; rw [hr1]; rw [hr1] at hrg0 hs0))
      (try go_frame)
      have HRG0 := Lib.hid hrg0
      have HTG2 : Hid (TG B1 pb mb mc 0 0 p.ks (.map []) (.map []) lv' w0) := Lib.hid (HTG1.out.below ⟨hg0.os, hg0.tape, hg0.output, hg0.size, fun j hj => hg0.block j hj (by simp)⟩)
      have HKP2 : Hid (KP B1 B2 Z lv' w w0) := Lib.hid (HKP1.out.grown hg0 (by omega) (by omega) (fun j hj => by cases hj))
      have hz0 : Z ≤ w0.heap.size := by omega
      clear hrg0 hg0 hs0 hr1 HKP1 HMR
      have hB1Z : B1 ≤ Z := by omega
      go_loopw [8] (fun _ wr => ∃ (left : Lit → Bool) (cnt : Nat) (Dout : DataW Unit), Hid (wr.ranges Tryz.prog 9 (plainElem Tryz.prog 9) omb r1 n p.D left cnt) ∧ cnt ≤ Maps.size p.D ∧
          Hid (TG B1 pb mb mc (Maps.size p.D - cnt) 0 p.ks Dout (.map []) lv' wr) ∧ Hid (Agree Dout p.D left) ∧ Hid (KP B1 B2 Z lv' w wr) ∧ Z ≤ wr.heap.size)
        (fun _ wr => wr.rangeLeft omb r1)
      case atStart =>
        exact ⟨_, _, .map [], HRG0, Nat.le_refl _, by rw [Nat.sub_self]; exact HTG2, Lib.hid (agree_start p.D), HKP2, hz0⟩
      case round =>
        obtain ⟨left, cnt, Dout, HRG, hcs, HTGr, HA, HKPr, hzr⟩ := hrel
        go_wp2_with (first
          | (at_next; refine next_ss _ rfl _ rfl omb r1 n _ _ _ rfl HRG.out ?_ ?_))
        · intro hc0 hl0
          subst hc0
          have hcr := (HOB.out wr HKPr.out).2
          have e := agree_end HA.out hl0 (HTGr.out.mp.canon lawS) (HRG.out.owns.canon lawS)
          subst e
          have hmrc : MpC wr omc nc DC := mpc_keep HL.out.cp (HKPr.out.mid omc l3 z3)
          have HMRC := Lib.hid hmrc
          have hsC : Maps.size DC ≤ nc := hmrc.size_le
          have hsM : Maps.size DC ≤ maxLen := mpc_max hmrc
          obtain ⟨r2, hr2⟩ : ∃ r, wr.heap.size = r := ⟨_, rfl⟩
          have hr2z : Z ≤ r2 := by omega
          have HTG3 := Lib.hid HTGr.out
          have HKP3 := Lib.hid HKPr.out
          clear hmrc hl0 HRG
          go_wp2_with (first
            | (at_range; refine wpList_range_own _ rfl _ 84 rfl 9 22 lawS Tryz.underlying84 _ omc nc _ rfl HMRC.out ?_; intro w0 hrg0 hg0 hs0; rw [hr2]; rw [hr2] at hrg0 hs0))
          (try go_frame)
          have HRG0 := Lib.hid hrg0
          have HTG4 : Hid (TG B1 pb mb mc (Maps.size p.D - 0) 0 p.ks p.D (.map []) lv' w0) := Lib.hid (HTG3.out.below ⟨hg0.os, hg0.tape, hg0.output, hg0.size, fun j hj => hg0.block j hj (by simp)⟩)
          have HKP4 : Hid (KP B1 B2 Z lv' w w0) := Lib.hid (HKP3.out.grown hg0 (by omega) (by omega) (fun j hj => by cases hj))
          have hz0 : Z ≤ w0.heap.size := by omega
          clear hrg0 hg0 hs0 hr2 HKP3 HTG3 HMRC HTGr HA HKPr hcr hzr
          go_loopw [10] (fun _ wr => ∃ (left : Lit → Bool) (cnt : Nat) (Dout : DataW Value), Hid (wr.ranges Tryz.prog 9 rawR omc r2 nc DC left cnt) ∧ cnt ≤ Maps.size DC ∧
              Hid (TG B1 pb mb mc (Maps.size p.D - 0) (Maps.size DC - cnt) p.ks p.D Dout lv' wr) ∧ Hid (Agree Dout DC left) ∧ Hid (KP B1 B2 Z lv' w wr) ∧ Z ≤ wr.heap.size)
            (fun _ wr => wr.rangeLeft omc r2)
          case atStart =>
            exact ⟨_, _, .map [], HRG0, Nat.le_refl _, by rw [Nat.sub_self]; exact HTG4, Lib.hid (agree_start DC), HKP4, hz0⟩
          case round =>
            obtain ⟨left, cnt, Dout, HRG, hcs, HTGr, HA, HKPr, hzr⟩ := hrel
            go_wp2_with (first
              | (at_next; refine next_sr _ rfl _ rfl omc r2 nc _ _ _ rfl HRG.out ?_ ?_))
            · intro hc0 hl0
              subst hc0
              have e := agree_end HA.out hl0 (HTGr.out.cp.canon lawS) (HRG.out.owns.canon lawS)
              subst e
              go_wp2
              go_end0
              refine ⟨rfl, lv', ⟨HTGr.out.blk, HTGr.out.mp.mono (by omega), HTGr.out.cp.mono (by omega), HTGr.out.row, fun k => ⟨(HL.out.cr k).1, fun l hl => ?_⟩, HTGr.out.lo.1, HTGr.out.lo.2.1, HTGr.out.lo.2.2.1⟩, HKPr.out.bel, fun j h1 h2 => HKPr.out.mid j h1 (by have := HZ.out; omega)⟩
              obtain ⟨v, v1, v2, v3, v4⟩ := (HL.out.cr k).2 l hl
              have hz := HZ.out
              refine ⟨v, v1, v2, row_base (row_keep v3 (fun g hg => HKPr.out.mid g (row_lt v3 hg).1 (by have := (row_lt v3 hg).2; omega))) hB, fun g hg => ⟨fun e => ?_, fun e => by cases e⟩⟩
              have h1 := row_lt v3 hg
              rcases HKPr.out.lvb g e with h | h <;> omega
            · intro x c w1 cnt1 hwx hlx hat hrg1 hlt hg1 hs1 hen
              have HTGn := Lib.hid (HTGr.out.iter (ranges_iter HRG.out) hg1)
              have HKPn := Lib.hid (HKPr.out.grown hg1 hzr (by omega) (fun j hj => by injection hj with hj; omega))
              have HAT := Lib.hid hat
              have HRG1 := Lib.hid hrg1
              obtain ⟨_, c4, _, _⟩ := tg_cells HTGn.out
              have hz1' : Z ≤ w1.heap.size := by omega
              clear hat hrg1 hg1 hlx hs1
              go_wp2_with (first
                | (at_mapUpdate; refine wpList_mapUpdate_own _ rfl _ _ _ 84 rfl 9 22 lawS Tryz.underlying84 rawR mc _ _ rfl HTGn.out.cp (by omega) _ _ _ rfl rfl (WideMaps.keyOf_string_mk Tryz.underlying9 hwx) _ [] rfl ?_; intro w2 hout2 hg2; go_frame))
              have hrg2 := HRG1.out.kept hg2 (fun e => by have := Option.some.inj e; have := HAP.out.2.2.1; omega) (fun e => by have := Option.some.inj e; have := HAP.out.2.2.1; omega)
              have HRG2 := Lib.hid hrg2
              have HT3 := Lib.hid (HTGn.out.putC (hout2.mono (n' := Maps.size DC - cnt1) (by omega)) hg2)
              have HK3 := Lib.hid (HKPn.out.grown hg2 hz1' (by omega) (fun j hj => by injection hj with hj; left; have := HAP.out.2.2.1; have := HTGn.out.lo.2.2.1; omega))
              have HA2 := Lib.hid (agree_step HA.out HTGr.out.cp.isMap (keyL8_k x) HAT.out)
              have hz2' : Z ≤ w2.heap.size := by have := hg2.size; omega
              clear hrg2 hout2 hg2 hen
              go_roundw
              case rel => exact ⟨_, cnt1, _, HRG2, by omega, HT3, HA2, HK3, hz2'⟩
              case measure => rw [HRG2.out.left_eq, HRG.out.left_eq]; exact hlt
        · intro x c w1 cnt1 hwx hwc hlx hat hrg1 hlt hg1 hs1 hen
          have HTGn := Lib.hid (HTGr.out.iter (ranges_iter HRG.out) hg1)
          have HKPn := Lib.hid (HKPr.out.grown hg1 hzr (by omega) (fun j hj => by injection hj with hj; omega))
          have HAT := Lib.hid hat
          have HRG1 := Lib.hid hrg1
          obtain ⟨c3, _, _, _⟩ := tg_cells HTGn.out
          have hz1' : Z ≤ w1.heap.size := by omega
          clear hat hrg1 hg1 hlx hs1
          go_wp2_with (first
            | (at_mapUpdate; refine wpList_mapUpdate_own _ rfl _ _ _ 83 rfl 9 9 lawS Tryz.underlying83 (plainElem Tryz.prog 9) mb _ _ rfl HTGn.out.mp (by unfold maxLen; omega) _ _ _ rfl rfl (WideMaps.keyOf_string_mk Tryz.underlying9 hwx) _ [] (plainElem_string Tryz.underlying9 hwc) ?_; intro w2 hout2 hg2; go_frame))
          have hrg2 := HRG1.out.kept hg2 (fun e => by have := Option.some.inj e; have := HAP.out.2.1; omega) (fun e => by have := Option.some.inj e; have := HAP.out.2.1; omega)
          have HRG2 := Lib.hid hrg2
          have HT3 := Lib.hid (HTGn.out.putD (hout2.mono (n' := Maps.size p.D - cnt1) (by omega)) hg2)
          have HK3 := Lib.hid (HKPn.out.grown hg2 hz1' (by omega) (fun j hj => by injection hj with hj; left; have := HAP.out.2.1; have := HTGn.out.lo.2.1; omega))
          have HA2 := Lib.hid (agree_step HA.out HTGr.out.mp.isMap (keyL8_k x) HAT.out)
          have hz2' : Z ≤ w2.heap.size := by have := hg2.size; omega
          clear hrg2 hout2 hg2 hen
          go_roundw
          case rel => exact ⟨_, cnt1, _, HRG2, by omega, HT3, HA2, HK3, hz2'⟩
          case measure => rw [HRG2.out.left_eq, HRG.out.left_eq]; exact hlt
end Go.Proofs.YtackciefmdiphaaGreatDoor
