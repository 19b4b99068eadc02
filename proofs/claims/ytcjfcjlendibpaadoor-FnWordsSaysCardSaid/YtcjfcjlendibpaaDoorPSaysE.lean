/- spec.assigns is the package's isEnv; the walk of spec.WordsEnvs; laws.few at one text. -/
import Derived.Test.YtcjfcjlendibpaaDoorPSaysW
import Derived.Test.YtcjfcjlendibpaaDoorPFnWordsSaysx4
import Derived.Test.YtcjfcjlendibpaaDoorPFnWordsSaysx1
import Derived.Test.YtcjfcjlendibpaaDoorPWEnvs
set_option linter.unusedVariables false
namespace Go.Proofs.YtcjfcjlendibpaaDoor
open Go.RowKit Plain Go.Proofs.YtcjfcjlendibpaaDoorW.PrintWords

theorem few_at (g c : Nat) (s : ByteArray) (w : World) (b : Bool) (hk : Kd.string.C w (some ⟨g, 0, none⟩) 1 [s]) (hc : 1 ≤ c) (hs : s.size ≤ 2147483647) (hb : decide (s.size + 1 ≤ 400) = b) :
    Calls Tryd.prog 22 #[.slice (some ⟨g, 0, none⟩) 1 c] w fun e w' => e = .returned (.bool b) ∧ Below w.heap.size w w' := by
  refine (PFnWordsSays.laws_few.calls 2 (some ⟨g, 0, none⟩) c [s] b w hk hc ?_).mono fun e w' ⟨he, hd⟩ => ⟨he, hd.below⟩
  have e0 : rdOf ByteArray.empty [s] 0 = s := rfl
  unfold PFnWordsSays.laws_few.f PFnWordsSays.laws_size.f
  rw [PFnWordsSays.laws_size.l0, if_pos (by simp), if_pos (by simp), if_pos (by simp), e0, wrap_nat (n := 1 + s.size) (by simp) (by omega), wrap_nat (n := 1) (by rfl) (by omega), PFnWordsSays.laws_size.l0, if_neg (by simp)]
  show some (decide (((1 + s.size : Nat) : Int) ≤ 400)) = some b
  rw [← hb]
  congr 1
  rw [decide_eq_decide]
  omega
def aF (l : List UInt8) : Nat → Nat → Bool
  | _, 0 => false
  | j, d + 1 => if eName j (l.getD j 0).toNat = true then aF l (j + 1) d else decide (0 < j) && (l.getD j 0).toNat == 61
theorem assigns_l0 (s : ByteArray) (hs : s.size ≤ 2147483647) : ∀ (d j k : Nat), j + d = s.size → d < k → PFnWordsSays.spec_assigns.l0 k s (j : Int) = some (aF s.data.toList j d)
  | 0, j, k, hd, hk => by
    obtain ⟨k, rfl⟩ : ∃ m, k = m + 1 := ⟨k - 1, by omega⟩
    rw [PFnWordsSays.spec_assigns.l0, if_neg (by omega)]
    split <;> rfl
  | d + 1, j, k, hd, hk => by
    obtain ⟨k, rfl⟩ : ∃ m, k = m + 1 := ⟨k - 1, by omega⟩
    have hb := bt_N (s := s) (i := j) (z := (j : Int)) rfl (by omega)
    have ih := assigns_l0 s hs d (j + 1) k (by omega) (by omega)
    have ew : wrap64 ((j : Int) + 1) = ((j + 1 : Nat) : Int) := wrap_nat (by omega) (by omega)
    have hg : (s.data.toList.getD j 0).toNat = bN s j := rfl
    have hlo : ∀ x : Nat, PFnWordsSays.spec_lower.f (x : Int) = some (decide (97 ≤ x) && decide (x ≤ 122)) := by
      intro x
      unfold PFnWordsSays.spec_lower.f
      by_cases h : 97 ≤ x
      · rw [if_pos (by omega), decide_eq_true h, Bool.true_and]; congr 1; rw [decide_eq_decide]; omega
      · rw [if_neg (by omega), decide_eq_false h, Bool.false_and]
    have hup : ∀ x : Nat, PFnWordsSays.spec_upper.f (x : Int) = some (decide (65 ≤ x) && decide (x ≤ 90)) := by
      intro x
      unfold PFnWordsSays.spec_upper.f
      by_cases h : 65 ≤ x
      · rw [if_pos (by omega), decide_eq_true h, Bool.true_and]; congr 1; rw [decide_eq_decide]; omega
      · rw [if_neg (by omega), decide_eq_false h, Bool.false_and]
    have hdi : ∀ x : Nat, PFnWordsSays.spec_digit.f (x : Int) = some (decide (48 ≤ x) && decide (x ≤ 57)) := by
      intro x
      unfold PFnWordsSays.spec_digit.f
      by_cases h : 48 ≤ x
      · rw [if_pos (by omega), decide_eq_true h, Bool.true_and]; congr 1; rw [decide_eq_decide]; omega
      · rw [if_neg (by omega), decide_eq_false h, Bool.false_and]
    rw [PFnWordsSays.spec_assigns.l0, if_pos (by omega), if_pos (by omega), hb, hlo, hup, hdi, ew, ih, aF, hg]
    generalize bN s j = x
    show (if _ then _ else Option.bind _ _) = _
    by_cases c1 : (decide (97 ≤ x) && decide (x ≤ 122)) = true
    · rw [if_pos c1, if_pos (by unfold eName; rw [c1]; simp)]
    rw [if_neg c1]
    show (if _ then _ else _) = _
    by_cases c2 : (decide (65 ≤ x) && decide (x ≤ 90)) = true
    · rw [if_pos c2, if_pos (by unfold eName; rw [c2]; simp)]
    rw [if_neg c2]
    by_cases c3 : x = 95
    · rw [if_pos (by omega), if_pos (by unfold eName; simp [c3])]
    rw [if_neg (by omega)]
    by_cases c4 : 0 < j
    · rw [if_pos (by omega)]
      show (if _ then _ else _) = _
      by_cases c5 : (decide (48 ≤ x) && decide (x ≤ 57)) = true
      · rw [if_pos c5, if_pos]
        simp only [Bool.and_eq_true, decide_eq_true_eq] at c5
        unfold eName; simp [c4, c5]
      · rw [if_neg c5, if_neg]
        · rw [decide_eq_true c4, Bool.true_and]
          congr 1
          by_cases h : x = 61
          · subst h; rfl
          · rw [beq_eq_false_iff_ne.2 h, beq_eq_false_iff_ne.2 (by omega)]
        · unfold eName
          simp only [Bool.not_eq_true] at c1 c2 c5
          rw [c1, c2, Bool.and_assoc, c5, beq_eq_false_iff_ne.2 c3]; simp
    · rw [if_neg (by omega), if_neg, decide_eq_false c4, Bool.false_and]
      unfold eName
      simp only [Bool.not_eq_true] at c1 c2
      rw [c1, c2, decide_eq_false c4, beq_eq_false_iff_ne.2 c3]; simp
theorem eName61 (j : Nat) : eName j 61 = false := by unfold eName; simp
theorem eFrom_iff (l : List UInt8) : ∀ (d j : Nat), eFrom l j d = true ↔ ∀ i, j ≤ i → i < j + d → eName i (l.getD i 0).toNat = true
  | 0, j => ⟨fun _ i h1 h2 => by omega, fun _ => rfl⟩
  | d + 1, j => by
    rw [eFrom, Bool.and_eq_true, eFrom_iff l d (j + 1)]
    constructor
    · rintro ⟨h1, h2⟩ i h3 h4
      by_cases h : i = j
      · subst h; exact h1
      · exact h2 i (by omega) (by omega)
    · intro h
      exact ⟨h j (Nat.le_refl _) (by omega), fun i h1 h2 => h i (by omega) (by omega)⟩
theorem aF_iff (l : List UInt8) : ∀ (d j : Nat), j + d = l.length → (aF l j d = true ↔ ∃ n, j ≤ n ∧ n < l.length ∧ 0 < n ∧ (l.getD n 0).toNat = 61 ∧ ∀ i, j ≤ i → i < n → eName i (l.getD i 0).toNat = true)
  | 0, j, hd => by
    rw [aF]
    constructor
    · intro h; cases h
    · rintro ⟨n, h1, h2, _⟩; omega
  | d + 1, j, hd => by
    rw [aF]
    by_cases hn : eName j (l.getD j 0).toNat = true
    · rw [if_pos hn, aF_iff l d (j + 1) (by omega)]
      constructor
      · rintro ⟨n, h1, h2, h3, h4, h5⟩
        refine ⟨n, by omega, h2, h3, h4, fun i h6 h7 => ?_⟩
        by_cases h : i = j
        · subst h; exact hn
        · exact h5 i (by omega) h7
      · rintro ⟨n, h1, h2, h3, h4, h5⟩
        have hne : n ≠ j := by rintro rfl; rw [h4, eName61] at hn; cases hn
        exact ⟨n, by omega, h2, h3, h4, fun i h6 h7 => h5 i (by omega) h7⟩
    · rw [if_neg hn, Bool.and_eq_true, decide_eq_true_eq, beq_iff_eq]
      constructor
      · rintro ⟨h1, h2⟩
        exact ⟨j, Nat.le_refl _, by omega, h1, h2, fun i h3 h4 => by omega⟩
      · rintro ⟨n, h1, h2, h3, h4, h5⟩
        have hne : n = j := by
          by_cases h : n = j
          · exact h
          · exact absurd (h5 j (Nat.le_refl _) (by omega)) hn
        subst hne
        exact ⟨h3, h4⟩
theorem getD61 (l : List UInt8) (n : Nat) (h : n < l.length) : (l.getD n 0).toNat = 61 ↔ l[n]? = some 61 := by
  rw [List.getD_eq_getElem?_getD, List.getElem?_eq_getElem h]
  show (l[n]).toNat = 61 ↔ _
  constructor
  · intro e; exact congrArg some (UInt8.toNat_inj.1 e)
  · intro e; rw [Option.some.inj e]; rfl
theorem assigns_env (l : List UInt8) : aF l 0 l.length = isEnvB l := by
  rw [Bool.eq_iff_iff, aF_iff l l.length 0 (by omega)]
  unfold isEnvB
  rw [Bool.and_eq_true, decide_eq_true_eq]
  constructor
  · rintro ⟨n, _, h2, h3, h4, h5⟩
    have e1 := (getD61 l n h2).1 h4
    have hi : Lib.indexByte l 61 = (n : Int) := by
      have hge := Lib.indexByte_ge l 61
      by_cases hm : Lib.indexByte l 61 = -1
      · exact absurd e1 (Lib.indexByte_none hm n)
      · obtain ⟨N, hN⟩ : ∃ N : Nat, Lib.indexByte l 61 = (N : Int) := ⟨(Lib.indexByte l 61).toNat, by omega⟩
        obtain ⟨k1, k2⟩ := Lib.indexByte_some hN
        have hNl : N < l.length := (List.getElem?_eq_some_iff.1 k1).1
        have h6 : ¬ n < N := fun h => k2 n h e1
        have h7 : ¬ N < n := fun h => by
          have := h5 N (Nat.zero_le _) h
          rw [(getD61 l N hNl).2 k1, eName61] at this
          cases this
        rw [hN, show N = n by omega]
    rw [hi]
    refine ⟨by omega, ?_⟩
    rw [Int.toNat_natCast, eFrom_iff]
    exact fun i h6 h7 => h5 i h6 (by omega)
  · rintro ⟨h1, h2⟩
    obtain ⟨N, hN⟩ : ∃ N : Nat, Lib.indexByte l 61 = (N : Int) := ⟨(Lib.indexByte l 61).toNat, by omega⟩
    obtain ⟨k1, k2⟩ := Lib.indexByte_some hN
    have hNl : N < l.length := (List.getElem?_eq_some_iff.1 k1).1
    rw [hN, Int.toNat_natCast, eFrom_iff] at h2
    exact ⟨N, Nat.zero_le _, hNl, by omega, (getD61 l N hNl).2 k1, fun i h3 h4 => h2 i h3 (by omega)⟩
theorem assigns_at (s : ByteArray) (w : World) (b : Bool) (hs : s.size ≤ 2147483647) (hb : isEnvB s.data.toList = b) :
    Calls Tryd.prog 35 #[.string s] w fun e w' => e = .returned (.bool b) ∧ Below w.heap.size w w' := by
  refine (PFnWordsSays.spec_assigns.calls (s.size + 1) s b w ?_).mono fun e w' ⟨he, hd⟩ => ⟨he, hd.below⟩
  have := assigns_l0 s hs s.size 0 (s.size + 1) (by omega) (by omega)
  rw [Lib.size_eq, assigns_env, hb, ← Lib.size_eq] at this
  exact this
end Go.Proofs.YtcjfcjlendibpaaDoor

set_option linter.unusedVariables false
namespace Go.Proofs.YtcjfcjlendibpaaDoor
open Go.RowKit Plain Go.Proofs.YtcjfcjlendibpaaDoorW.PrintWords

/-- a value is a row of these texts -/
def IsT (v : Value) (l : List (List UInt8)) (w : World) : Prop := ∃ A c, v = .slice A l.length c ∧ l.length ≤ c ∧ Kd.string.C w A l.length (baOf l)
/-- what spec.WordsEnvs answers -/
def SEPost (R : SA) (w0 : World) (e : Ending) (w' : World) : Prop :=
  Below w0.heap.size w0 w' ∧
    match R with
    | .opn => e = .returned (.tuple #[.slice none 0 0, .slice none 0 0, .int .i64 2])
    | .no => e = .returned (.tuple #[.slice none 0 0, .slice none 0 0, .int .i64 0])
    | .yes l => ∃ v1 v2, e = .returned (.tuple #[v1, v2, .int .i64 1]) ∧ IsT v1 (l.takeWhile isEnvB) w' ∧ IsT v2 (l.dropWhile isEnvB) w'
theorem ist_parts {W : World} {B g n c k : Nat} {l : List (List UInt8)} (h : W.ownsRow B 9 1 (.slice (some ⟨g, 0, none⟩) l.length c) l.length (l.map strV)) (hn : l.length = n) (hk : k ≤ n) (hc : n ≤ c) (hn1 : n ≤ 1000) (h1 : l.takeWhile isEnvB = l.take k) (h2 : l.dropWhile isEnvB = l.drop k) :
    IsT (.slice (some ⟨g, 0, none⟩) k c) (l.takeWhile isEnvB) W ∧ IsT (.slice (some ⟨g, k, none⟩) (n - k) (c - k)) (l.dropWhile isEnvB) W := by
  have cell : ∀ i x, l[i]? = some x → W.cell? ⟨g, i, none⟩ = some (.string ⟨x.toArray⟩) := by
    intro i x hx
    have := h.cells (g := g) rfl i (strV x) (by simp [hx])
    rwa [Addr.add_lit, Nat.zero_add] at this
  rw [h1, h2]
  constructor
  · have e : (l.take k).length = k := by rw [List.length_take]; omega
    refine ⟨some ⟨g, 0, none⟩, c, by rw [e], by omega, kc_row W g _ _ (baOf_length _) (by omega) fun i x hx => ?_⟩
    have hx' : ((l.take k).map fun x => (⟨x.toArray⟩ : ByteArray))[i]? = some x := hx
    rw [List.getElem?_map] at hx'
    obtain ⟨y, hy, rfl⟩ := Option.map_eq_some_iff.1 hx'
    have hi := (List.getElem?_eq_some_iff.1 hy).1
    rw [List.getElem?_take_of_lt (by omega)] at hy
    exact cell i y hy
  · have e : (l.drop k).length = n - k := by rw [List.length_drop, hn]
    refine ⟨some ⟨g, k, none⟩, c - k, by rw [e], by omega, kc_addr W _ _ _ (baOf_length _) (by omega) fun i x hx => ?_⟩
    have hx' : ((l.drop k).map fun x => (⟨x.toArray⟩ : ByteArray))[i]? = some x := hx
    rw [List.getElem?_map] at hx'
    obtain ⟨y, hy, rfl⟩ := Option.map_eq_some_iff.1 hx'
    rw [List.getElem?_drop] at hy
    rw [Addr.add_lit]
    exact cell (k + i) y hy
set_option maxHeartbeats 4000000 in
set_option maxRecDepth 100000 in
theorem senvs_at (s : ByteArray) (env cmt : Bool) (R : SA) (hW : ∀ w : World, Calls Tryd.prog 23 #[.string s, .bool env, .bool cmt] w (SWPost R w)) (hl : ∀ l, R = .yes l → l.length ≤ 1000 ∧ ∀ x ∈ l, x.length ≤ 1000) (w : World) :
    Calls Tryd.prog 24 #[.string s, .bool env, .bool cmt] w (SEPost R w) := by
  have HW := Lib.hid hW
  clear hW
  cases R with
  | opn =>
    go_enter Tryd.func24, Tryd.ntmps24
    go_wp2_with (go_at_call 23; (with_reducible refine (HW.out _).mono ?_))
    intro e w1 hp
    obtain ⟨hb1, rfl⟩ := hp
    dsimp only
    go_wp2_with fail
    go_ret3
    exact ⟨hb1, rfl⟩
  | no =>
    go_enter Tryd.func24, Tryd.ntmps24
    go_wp2_with (go_at_call 23; (with_reducible refine (HW.out _).mono ?_))
    intro e w1 hp
    obtain ⟨hb1, rfl⟩ := hp
    dsimp only
    go_wp2_with fail
    go_ret3
    exact ⟨hb1, rfl⟩
  | yes l =>
    obtain ⟨hl1, hl2⟩ := hl l rfl
    have HL2 := Lib.hid hl2
    clear hl hl2
    go_enter Tryd.func24, Tryd.ntmps24
    go_wp2_with (go_at_call 23; (with_reducible refine (HW.out _).mono ?_))
    intro e w1 hp
    obtain ⟨hb1, vo, rfl, ho⟩ := hp
    dsimp only
    have hform : (vo = .slice none 0 0 ∧ l = []) ∨ ∃ g c, vo = .slice (some ⟨g, 0, none⟩) l.length c := by
      rcases ho.2 with ⟨h1, h2⟩ | ⟨g, c, _, h1, _⟩
      · exact .inl ⟨h1, List.eq_nil_of_length_eq_zero h2⟩
      · exact .inr ⟨g, c, h1⟩
    have HB1 := Lib.hid hb1
    rcases hform with ⟨rfl, rfl⟩ | ⟨g, c, rfl⟩
    · clear ho hb1
      go_wp2_with fail
      go_loopg [11] 0 (fun gh vi wr => vi = .int .i64 0 ∧ wr = w1)
      case atStart => exact ⟨rfl, rfl⟩
      case round =>
        obtain ⟨rfl, rfl⟩ := hrel
        go_wp2_with fail
        go_quiet (fail)
        go_wp2
        go_ret3
        refine ⟨⟨HB1.out.os, HB1.out.tape, HB1.out.output, HB1.out.size, HB1.out.block⟩, .slice none 0 0, .slice none 0 0, rfl, ⟨none, 0, rfl, Nat.le_refl _, kc_nil _⟩, ⟨none, 0, rfl, Nat.le_refl _, kc_nil _⟩⟩
    · have hcap := own_le ho
      have HO := Lib.hid ho
      obtain ⟨n, hn⟩ : ∃ n, l.length = n := ⟨_, rfl⟩
      rw [hn] at hl1 hcap ⊢
      have HN := Lib.hid hn
      clear ho hb1 hn
      go_wp2_with fail
      go_loopg [11] n (fun gh vi wr => ∃ k : Nat, vi = .int .i64 k ∧ k ≤ n ∧ gh = n - k ∧ Hid (∀ x ∈ l.take k, isEnvB x = true) ∧ Hid (Below w1.heap.size w1 wr))
      case atStart => exact ⟨0, rfl, Nat.zero_le _, rfl, Lib.hid (by simp), Lib.hid (Below.refl _ _)⟩
      case round =>
        obtain ⟨k, rfl, hk, rfl, HE, HB⟩ := hrel
        have fin : (k = n ∨ ∃ x, l[k]? = some x ∧ isEnvB x = false) → l.takeWhile isEnvB = l.take k ∧ l.dropWhile isEnvB = l.drop k := by
          intro h
          have e := List.take_append_drop k l
          have h1 : (l.drop k).takeWhile isEnvB = [] := by
            rcases h with h | ⟨x, hx, hf⟩
            · rw [List.drop_eq_nil_of_le (by rw [HN.out]; omega)]; rfl
            · have hkl := (List.getElem?_eq_some_iff.1 hx).1
              rw [List.drop_eq_getElem_cons hkl, (List.getElem?_eq_some_iff.1 hx).2, List.takeWhile_cons, hf]; rfl
          have h2 : l.takeWhile isEnvB = l.take k := by
            conv => lhs; rw [← e]
            rw [List.takeWhile_append_of_pos HE.out, h1, List.append_nil]
          refine ⟨h2, ?_⟩
          have h3 := List.takeWhile_append_dropWhile (p := isEnvB) (l := l)
          rw [h2] at h3
          exact List.append_cancel_left (h3.trans e.symm)
        have FIN := Lib.hid fin
        clear fin
        have own := (HO.out)
        have HO2 := Lib.hid (own_bl own (HB.out))
        clear own
        by_cases hkn : k < n
        · have hkz : (k : Int) < (n : Int) := by omega
          obtain ⟨x, hx⟩ : ∃ x, l[k]? = some x := ⟨_, List.getElem?_eq_getElem (by rw [HN.out]; exact hkn)⟩
          have hc := HO2.out.cells (g := g) rfl k (strV x) (by simp [hx])
          rw [Addr.add_lit, Nat.zero_add] at hc
          have hxl : x.length ≤ 1000 := HL2.out x (List.mem_of_getElem? hx)
          obtain ⟨b, hb⟩ : ∃ b, isEnvB x = b := ⟨_, rfl⟩
          have HA := Lib.hid (fun W => assigns_at ⟨x.toArray⟩ W b (by rw [Lib.size_eq]; show x.length ≤ _; omega) hb)
          have hcs : wr.cell? ⟨g, k, none⟩ = some (.string ⟨x.toArray⟩) := hc
          have HX := Lib.hid hx
          have HBB := Lib.hid hb
          clear hc hx hb
          go_wp2_with (go_at_call 35; (with_reducible refine (HA.out _).mono ?_))
          rintro e w4 ⟨rfl, hb4⟩
          dsimp only
          have HB4 := Lib.hid (HB.out.trans (hb4.mono HB.out.size))
          have HO4 := Lib.hid (own_bl HO2.out hb4)
          clear hb4 hcs
          cases b with
          | true =>
            go_wp2_with fail
            go_roundg (n - (k + 1))
            case measure => omega
            case rel =>
              refine ⟨k + 1, by go_num, by omega, rfl, Lib.hid ?_, HB4⟩
              have hkl : k < l.length := by rw [HN.out]; exact hkn
              rw [take_snoc hkl]
              intro y hy
              rcases List.mem_append.1 hy with hy | hy
              · exact HE.out y hy
              · simp at hy
                have := HX.out
                rw [List.getElem?_eq_getElem hkl] at this
                rw [hy, Option.some.inj this]
                exact HBB.out
          | false =>
            obtain ⟨f1, f2⟩ := FIN.out (.inr ⟨x, HX.out, HBB.out⟩)
            obtain ⟨i1, i2⟩ := ist_parts HO4.out HN.out hk hcap hl1 f1 f2
            have I1 := Lib.hid i1
            have I2 := Lib.hid i2
            have hkc : (k : Int) ≤ (c : Int) := by omega
            have hkn2 : (k : Int) ≤ (n : Int) := by omega
            clear f1 f2 i1 i2
            go_wp2_with fail
            go_quiet (fail)
            go_wp2
            go_ret3
            exact ⟨bthen HB1.out (HB4.out.trans ⟨rfl, rfl, rfl, Nat.le_refl _, fun _ _ => rfl⟩), _, _, rfl, I1.out, I2.out⟩
        · obtain rfl : k = n := by omega
          have hkz : ¬ (k : Int) < (k : Int) := by omega
          obtain ⟨f1, f2⟩ := FIN.out (.inl rfl)
          obtain ⟨i1, i2⟩ := ist_parts HO2.out HN.out (Nat.le_refl k) hcap hl1 f1 f2
          have I1 := Lib.hid i1
          have I2 := Lib.hid i2
          clear i1 i2 f1
          have HF2 := Lib.hid f2
          clear f2
          by_cases hck : c = k
          · subst hck
            go_wp2_with fail
            go_quiet (fail)
            go_wp2
            go_ret3
            refine ⟨bthen HB1.out (HB.out.trans ⟨rfl, rfl, rfl, Nat.le_refl _, fun _ _ => rfl⟩), _, _, rfl, I1.out, ?_⟩
            show IsT _ (l.dropWhile isEnvB) _
            rw [HF2.out, List.drop_eq_nil_of_le (by rw [HN.out]; exact Nat.le_refl _)]
            exact ⟨_, 0, rfl, Nat.le_refl _, ⟨rfl, by simp, fun h => absurd h (by simp)⟩⟩
          · have hkc : (k : Int) < (c : Int) := by omega
            have I2' : IsT (.slice (some ⟨g, k, none⟩) 0 (c - k)) (l.dropWhile isEnvB) wr := by have := I2.out; rwa [Nat.sub_self] at this
            have I2h := Lib.hid I2'
            clear I2'
            go_wp2_with fail
            go_quiet (fail)
            go_wp2
            go_ret3
            exact ⟨bthen HB1.out (HB.out.trans ⟨rfl, rfl, rfl, Nat.le_refl _, fun _ _ => rfl⟩), _, _, rfl, I1.out, I2h.out⟩
end Go.Proofs.YtcjfcjlendibpaaDoor
