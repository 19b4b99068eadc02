/- The walk of the law FnWordsEnvs. -/
import Derived.Test.YtcjfcjlendibpaaDoorPOne
import Derived.Test.YtcjfcjlendibpaaDoorPWEnvs
set_option linter.unusedVariables false
namespace Go.Proofs.YtcjfcjlendibpaaDoor
open Go.RowKit Plain Go.Proofs.YtcjfcjlendibpaaDoorW.PrintWords

/-- append at an operation whose guard says yes -/
theorem wpList_append_w {P : Program} {w : World} {ops : Array Oper} {rest : List Oper} {o : Oper} {a : Act} {Q : Exit → Act → World → Prop} (hgd : Region.wanted o (yielded ops a.tmps) = true) (s x : Operand) (t : TypeId)
    (ho : o.op = .call { callee := .builtin .append, args := #[s, x], argTypes := #[t, t] })
    (base : Nat) (e : TypeId) (i : TypeInfo) (z : Value) (size bytes : Nat) (ht : P.underlying t = some (.slice e)) (hi : P.info? e = some i) (hz : i.zero = some z)
    (hsize : i.size = size) (hby : i.bytes = bytes) (hzs : z.cells.size = size) (hsz : 0 < size)
    (v : Value) (n : Nat) (xs : List Value) (hs : a.eval s = v) (hown : w.ownsRow base e size v n xs)
    (ad : Addr) (m c : Nat) (news : List Value) (hx : a.eval x = .slice (some ad) m c) (hl : news.length = m * size) (hnews : ∀ j u, news[j]? = some u → w.cell? (ad.add j) = some u) (h1 : ∀ u ∈ news, u.oneCell' = true)
    (h63 : n + m ≤ maxLen) (hbytes : (n + m) * bytes ≤ 140737488355328) (hbase : base ≤ w.heap.size)
    (h : ∀ v' w', w'.ownsRow base e size v' (n + m) (xs ++ news) → w.grownBy w' v.ownBlock → (v'.ownBlock = v.ownBlock ∨ v'.ownBlock = some w.heap.size) → wpList P ops Q rest (a.put o.dst v') w') :
    wpList P ops Q (o :: rest) a w := by
  refine wpList_step fun K hK => ?_
  rw [if_pos hgd]
  obtain ⟨v', w', hr, h2, h3, h4, h5⟩ := run_append_own_at (P := P) w base t o.type e i z size bytes ht hi hz hsize hby hzs hsz v n xs hown ad m c news hl hnews h1 h63 hbytes hbase
  unfold Oper.wp execOp
  simp only [ho, resolve, invoke, builtin, Sem.run_bind, Sem.run_pure, Result.andThen_ok, List.map_toArray, List.map_cons, List.map_nil, hs, hx, hr]
  exact hK _ _ (h v' w' h2 h3 h5)
theorem strs_one (l : List (List UInt8)) : ∀ u ∈ l.map strV, u.oneCell' = true := by
  intro u hu
  simp only [List.mem_map] at hu
  obtain ⟨y, _, rfl⟩ := hu
  rfl
theorem wordsEnvs0 (s : ByteArray) (ANS : PA) (hANS : words false (rnsOf s.data.toList) = ANS) (w : World) (hs : s.size ≤ 2147483648) (hE : EVar w) :
    Calls Tryd.prog 20 #[.string s, .agg #[.bool false, .bool false, .slice none 0 0, .string ⟨#[]⟩]] w (WEPost false ANS w) :=
  wordsEnvs_any s false false false ANS (fun _ => hANS) (fun _ h => by cases h) w hs (fun h => by cases h) hE
theorem we_none {w0 w' : World} {e : Ending} (h : WEPost false none w0 e w') : e = .returned (.tuple #[.slice none 0 0, .slice none 0 0, .bool false]) ∧ Below w0.heap.size w0 w' := by
  obtain ⟨A, hA, hb, hm⟩ := h
  cases hA rfl
  exact ⟨hm, hb⟩
theorem we_some {w0 w' : World} {e : Ending} {l : List (List UInt8)} {ps : Int} (h : WEPost false (some (l, ps)) w0 e w') : ∃ g1 c1 g2 c2, e = .returned (.tuple #[.slice (some ⟨g1, 0, none⟩) (l.takeWhile isEnvB).length c1, .slice (some ⟨g2, 0, none⟩) (l.dropWhile isEnvB).length c2, .bool true]) ∧
        w'.ownsRow w0.heap.size 9 1 (.slice (some ⟨g1, 0, none⟩) (l.takeWhile isEnvB).length c1) (l.takeWhile isEnvB).length ((l.takeWhile isEnvB).map strV) ∧
        w'.ownsRow w0.heap.size 9 1 (.slice (some ⟨g2, 0, none⟩) (l.dropWhile isEnvB).length c2) (l.dropWhile isEnvB).length ((l.dropWhile isEnvB).map strV) ∧ Below w0.heap.size w0 w' := by
  obtain ⟨A, hA, hb, hm⟩ := h
  cases hA rfl
  obtain ⟨g1, c1, g2, c2, he, h1, h2⟩ := hm
  exact ⟨g1, c1, g2, c2, he, h1, h2, hb⟩
theorem envs_words : words false (rnsOf [65, 61, 98, 32, 99, 32, 100, 61, 101]) = some ([[65, 61, 98], [99], [100, 61, 101]], -1) := by
  rw [rns_ascii _ (by decide)]
  decide +kernel
/-- in an assignment the sign stands behind its name -/
theorem at_env (l : List UInt8) (r : Int) (h : isEnvB l = true) (hr : AtRes l [61] 0 r) : 1 ≤ r := by
  unfold isEnvB at h
  simp only [Bool.and_eq_true, decide_eq_true_eq] at h
  obtain ⟨h1, _⟩ := h
  obtain ⟨N, hN⟩ : ∃ N : Nat, Lib.indexByte l 61 = (N : Int) := ⟨(Lib.indexByte l 61).toNat, by omega⟩
  obtain ⟨h2, h3⟩ := Lib.indexByte_some hN
  have hlt : N < l.length := (List.getElem?_eq_some_iff.1 h2).1
  have hat : (l.drop N).take 1 = [61] := by
    obtain ⟨_, h4⟩ := List.getElem?_eq_some_iff.1 h2
    rw [List.drop_eq_getElem_cons hlt, h4]
    rfl
  rcases hr with ⟨_, hn⟩ | ⟨k, rfl, _, hk, hm, _⟩
  · exact absurd hat (hn N (Nat.zero_le _) (by simp; omega))
  · by_cases h0 : k = 0
    · subst h0
      have h5 := h3 0 (by omega)
      exfalso
      apply h5
      cases l with
      | nil => cases hm
      | cons c l => simp at hm; simp [hm]
    · omega
set_option maxHeartbeats 4000000 in
set_option maxRecDepth 100000 in
theorem fnWordsEnvs_walk (s : ByteArray) (w : World) (hs0 : s.size ≤ 140737488351232) (hE0 : EVar w) :
    Calls Tryd.prog 7 #[.string s] w fun e w' => e = .returned (.bool true) ∧ Below w.heap.size w w' := by
  by_cases hb : 2147483647 < s.size
  · have hbz : (2147483647 : Int) < (s.size : Int) := by omega
    go_enter Tryd.func7, Tryd.ntmps7
    go_wp2
    go_ret
    exact ⟨rfl, Below.refl _ _⟩
  have hbz : ¬ (2147483647 : Int) < (s.size : Int) := by omega
  have HO := Lib.hid (wordsEnvs0 ⟨#[65, 61, 98, 32, 99, 32, 100, 61, 101]⟩ _ envs_words w (by decide) hE0)
  obtain ⟨lb, hlb⟩ : ∃ lb, decide (4096 < s.size) = lb := ⟨_, rfl⟩
  have HLB := Lib.hid hlb
  have HL := Lib.hid (fun w => long_at s w lb hlb)
  clear hlb
  go_enter Tryd.func7, Tryd.ntmps7
  go_wp2_with (go_at_call 20; (with_reducible refine HO.out.mono ?_))
  intro e w1 hp
  obtain ⟨g1, c1, g2, c2, rfl, ho1, ho2, hb1⟩ := we_some hp
  clear hp HO
  have e1 : ([[65, 61, 98], [99], [100, 61, 101]] : List (List UInt8)).takeWhile isEnvB = [[65, 61, 98]] := by decide +kernel
  have e2 : ([[65, 61, 98], [99], [100, 61, 101]] : List (List UInt8)).dropWhile isEnvB = [[99], [100, 61, 101]] := by decide +kernel
  rw [e1] at ho1 ⊢
  rw [e2] at ho2 ⊢
  have hc1 := own_le ho1
  have hc2 := own_le ho2
  have HK1 := Lib.hid (kc_own ho1 rfl (by decide))
  have HK2 := Lib.hid (kc_own ho2 rfl (by decide))
  clear ho1 ho2 e1 e2
  dsimp only [List.length_cons, List.length_nil] at hc1 hc2 ⊢
  have HQ1 := Lib.hid (eqTexts_at (some ⟨g1, 0, none⟩) (some ⟨w1.heap.size, 0, none⟩) 1 1 c1 1 (baOf [[65, 61, 98]]) [⟨#[65, 61, 98]⟩] (w1.alloc (.cells #[.string ⟨#[65, 61, 98]⟩] 9)) true (Kd.C_below HK1.out ((Below.refl _ w1).alloc (Nat.le_refl _) _)) (kc_new w1 [⟨#[65, 61, 98]⟩] 1 rfl (by decide)) rfl rfl hc1 (by decide) (by decide) (by decide))
  go_wp2_with (go_at_call 13; (with_reducible refine HQ1.out.mono ?_))
  rintro e w2 ⟨rfl, hb2⟩
  dsimp only
  have HB2 := Lib.hid (bthen ((Below.refl _ w1).alloc (Nat.le_refl _) _) hb2)
  have HQ2 := Lib.hid (eqTexts_at (some ⟨g2, 0, none⟩) (some ⟨w2.heap.size, 0, none⟩) 2 2 c2 2 (baOf [[99], [100, 61, 101]]) [⟨#[99]⟩, ⟨#[100, 61, 101]⟩] (w2.alloc (.cells #[.string ⟨#[99]⟩, .string ⟨#[100, 61, 101]⟩] 9)) true (Kd.C_below (Kd.C_below HK2.out HB2.out) ((Below.refl _ w2).alloc (Nat.le_refl _) _)) (kc_new w2 [⟨#[99]⟩, ⟨#[100, 61, 101]⟩] 2 rfl (by decide)) rfl rfl hc2 (by decide) (by decide) (by decide))
  clear hb2 HQ1
  go_wp2_with (go_at_call 13; (with_reducible refine HQ2.out.mono ?_))
  rintro e w3 ⟨rfl, hb3⟩
  dsimp only
  have HB3 := Lib.hid (bthen hb1 (bthen HB2.out (bthen ((Below.refl _ w2).alloc (Nat.le_refl _) _) hb3)))
  have HE3 := Lib.hid (hE0.below HB3.out)
  clear hb3 hb1 HQ2 HK1 HK2 hE0
  go_wp2_with (go_at_call 10; (with_reducible refine (HL.out _).mono ?_))
  rintro e w4 ⟨rfl, hb4⟩
  dsimp only
  have HB4 := Lib.hid (bthen HB3.out hb4)
  have HE4 := Lib.hid (HE3.out.below hb4)
  clear hb4 HB2 HB3 HE3 HL
  cases lb with
  | true =>
    go_wp2_with fail
    go_ret
    exact ⟨rfl, HB4.out⟩
  | false =>
    have hle : s.size ≤ 4096 := by simpa using HLB.out
    obtain ⟨X, hX⟩ : ∃ X, words false (rnsOf s.data.toList) = X := ⟨_, rfl⟩
    have hlen : ∀ x ps, X = some (x, ps) → x.length ≤ 4097 := fun x ps h => by
      have := words_len false s.data.toList x ps (hX.trans h)
      rw [← Lib.size_eq] at this
      omega
    have HW1 := Lib.hid (fun w hE => words0 s X hX w (by omega) hE)
    have HW2 := Lib.hid (fun w hE => wordsEnvs0 s X hX w (by omega) hE)
    clear hX hle HLB
    cases X with
    | none =>
      clear hlen
      go_wp2_with (go_at_call 11; (with_reducible refine (HW1.out _ HE4.out).mono ?_))
      intro e w5 hp
      obtain ⟨rfl, hb5⟩ := w0_none hp
      have HE5 := Lib.hid (HE4.out.below hb5)
      have HB5 := Lib.hid (bthen HB4.out hb5)
      clear hp hb5
      dsimp only
      go_wp2_with (go_at_call 20; (with_reducible refine (HW2.out _ HE5.out).mono ?_))
      intro e w6 hp
      obtain ⟨rfl, hb6⟩ := we_none hp
      have HB6 := Lib.hid (bthen HB5.out hb6)
      clear hp hb6
      dsimp only
      go_wp2_with fail
      go_loopg [71] 0 (fun c iv wr => iv = .int .i64 0 ∧ w6 = wr)
      case atStart => exact ⟨rfl, rfl⟩
      case round =>
        obtain ⟨rfl, rfl⟩ := hrel
        go_wp2
        go_ret
        exact ⟨rfl, HB6.out⟩
    | some p =>
      obtain ⟨l, ps⟩ := p
      have hll := hlen l ps rfl
      clear hlen
      go_wp2_with (go_at_call 11; (with_reducible refine (HW1.out _ HE4.out).mono ?_))
      intro e w5 hp
      have HXB := Lib.hid (w0_bound hp)
      obtain ⟨gx, cx, rfl, hox, hb5⟩ := w0_some hp
      have HE5 := Lib.hid (HE4.out.below hb5)
      have HB5 := Lib.hid (bthen HB4.out hb5)
      have HOX := Lib.hid hox
      clear hp hb5 hox
      dsimp only
      go_wp2_with (go_at_call 20; (with_reducible refine (HW2.out _ HE5.out).mono ?_))
      intro e w6 hp
      obtain ⟨g3, c3, g4, c4, rfl, ho3, ho4, hb6⟩ := we_some hp
      have HB6 := Lib.hid (bthen HB5.out hb6)
      obtain ⟨es, hes⟩ : ∃ es, l.takeWhile isEnvB = es := ⟨_, rfl⟩
      obtain ⟨ws, hws⟩ : ∃ ws, l.dropWhile isEnvB = ws := ⟨_, rfl⟩
      have hcat : es ++ ws = l := by rw [← hes, ← hws, List.takeWhile_append_dropWhile]
      have hall : ∀ y ∈ es, isEnvB y = true := fun y hy => by rw [← hes] at hy; exact List.all_eq_true.1 (List.all_takeWhile) y hy
      rw [hes] at ho3 ⊢
      rw [hws] at ho4 ⊢
      have HCAT := Lib.hid hcat
      have HALL := Lib.hid hall
      have HO3 := Lib.hid ho3
      have HO4 := Lib.hid ho4
      have hcl : es.length + ws.length = l.length := by rw [← hcat, List.length_append]
      have HCL := Lib.hid hcl
      have hel : es.length ≤ 4097 := by omega
      have hwl : ws.length ≤ 4097 := by omega
      have HBX := Lib.hid hb6
      clear hp hb6 hes hws hcat hall ho3 ho4 hcl
      dsimp only
      go_upto_region 10 with fail
      have hmk : (w6.alloc (.cells #[] 9)).ownsRow w6.heap.size 9 1 (.slice (some ⟨w6.heap.size, 0, none⟩) 0 0) 0 [] := ⟨rfl, .inr ⟨_, 0, #[], rfl, Nat.le_refl _, heap_alloc_new _ _, Nat.le_refl _, by unfold maxLen; omega, rfl, rfl⟩⟩
      have HMK := Lib.hid hmk
      obtain ⟨i0, hi, hz0, hz1, hz2⟩ := info_parts infoStr
      have HI := Lib.hid (And.intro hi (And.intro hz0 (And.intro hz1 hz2)))
      clear hmk hi hz0 hz1 hz2
      have hg3 := HO3.out.lt g3 rfl
      have hg4 := HO4.out.lt g4 rfl
      go_wp2_with (at_builtin; refine wpList_append_w rfl _ _ 24 rfl w6.heap.size 9 i0 (.string ByteArray.empty) 1 16 Tryd.underlying24 HI.out.1 HI.out.2.1 HI.out.2.2.1 HI.out.2.2.2 rfl (by decide) _ _ _ rfl HMK.out ⟨g3, 0, none⟩ es.length c3 (es.map strV) rfl ?xa ?xb ?xc ?xd ?xe ?xf ?_)
      case xa => simp
      case xb => exact (HO3.out.alloc _).cells (g := g3) rfl
      case xc => exact strs_one es
      case xd => unfold maxLen; omega
      case xe => omega
      case xf => simp
      intro v' w7 hown7 hgr7 hat7
      have hown7' : w7.ownsRow w6.heap.size 9 1 v' es.length (es.map strV) := by simpa using hown7
      obtain ⟨g5, c5, rfl⟩ := own_sl hown7' (.inl (by rcases hat7 with e | e <;> rw [e] <;> simp [Value.ownBlock]))
      have HO4' := Lib.hid (kept_ne (HO4.out.alloc (.cells #[] 9)) hgr7 (fun k hk e => by cases hk; have h9 : g4 = w6.heap.size := Option.some.inj e; omega))
      have HO3' := Lib.hid (kept_ne (HO3.out.alloc (.cells #[] 9)) hgr7 (fun k hk e => by cases hk; have h9 : g3 = w6.heap.size := Option.some.inj e; omega))
      have hb7 := ((Below.refl _ w6).alloc (Nat.le_refl _) (.cells #[] 9)).grown hgr7 (by simp) (fun k hk => by cases hk; exact Nat.le_refl _)
      have HB7 := Lib.hid hb7
      have HOW7 := Lib.hid hown7'
      have hsz7 : w6.heap.size ≤ w7.heap.size := hb7.size
      clear hown7 hown7' hgr7 hat7 hb7
      go_wp2_with (at_builtin; refine wpList_append_w rfl _ _ 24 rfl w6.heap.size 9 i0 (.string ByteArray.empty) 1 16 Tryd.underlying24 HI.out.1 HI.out.2.1 HI.out.2.2.1 HI.out.2.2.2 rfl (by decide) _ _ _ rfl HOW7.out ⟨g4, 0, none⟩ ws.length c4 (ws.map strV) rfl ?ya ?yb ?yc ?yd ?ye ?yf ?_)
      case ya => simp
      case yb => exact HO4'.out.cells (g := g4) rfl
      case yc => exact strs_one ws
      case yd => unfold maxLen; omega
      case ye => omega
      case yf => exact hsz7
      intro v'' w8 hown8 hgr8 hat8
      have hg5 := HOW7.out.lt g5 rfl
      obtain ⟨g6, c6, rfl⟩ := own_sl hown8 (.inl (by rcases hat8 with e | e <;> rw [e] <;> simp [Value.ownBlock]))
      have hb8 := HB7.out.grown hgr8 hsz7 (fun k hk => by cases hk; exact hg5.1)
      have HB8 := Lib.hid hb8
      have HO3'' := Lib.hid (kept_ne HO3'.out hgr8 (fun k hk e => by cases hk; have h9 : g3 = g5 := Option.some.inj e; omega))
      have hl8 := HCL.out
      rw [← List.map_append, HCAT.out, hl8] at hown8
      have hc6 := own_le hown8
      have HK8 := Lib.hid (kc_own hown8 rfl (by omega))
      have hcx := own_le HOX.out
      have HKX := Lib.hid (Kd.C_below (Kd.C_below (kc_own HOX.out rfl (by omega)) HBX.out) HB8.out)
      rw [hl8]
      have HQ := Lib.hid (eqTexts_at (some ⟨g6, 0, none⟩) (some ⟨gx, 0, none⟩) l.length l.length c6 cx (baOf l) (baOf l) w8 true HK8.out HKX.out (baOf_length l) (baOf_length l) hc6 hcx (by omega) (by simp))
      have HB9 := Lib.hid (bthen HB6.out HB8.out)
      clear hown8 hgr8 hat8 hb8 hg5 hl8 hc6 hcx HK8 HKX HB7 HOW7
      go_wp2_with (go_at_call 13; (with_reducible refine HQ.out.mono ?_))
      rintro e w9 ⟨rfl, hb9⟩
      dsimp only
      have HE9 := Lib.hid (HO3''.out)
      have HR9 := Lib.hid (fun (k : Nat) (y : List UInt8) (hk : es[k]? = some y) => by
        have h := HO3''.out.cells (g := g3) rfl k (.string ⟨y.toArray⟩) (by simp [hk, strV])
        rw [Addr.add_lit, Nat.zero_add] at h
        exact (hb9.cell (p := ⟨g3, k, none⟩) (HO3''.out.lt g3 rfl).2).trans h)
      have HB10 := Lib.hid (bthen HB9.out hb9)
      clear hb9 HQ
      go_wp2_with fail
      go_loopg [71] es.length (fun c iv wr => ∃ k : Nat, iv = .int .i64 k ∧ k ≤ es.length ∧ c = es.length - k ∧ w9 = wr)
      case atStart => exact ⟨0, rfl, Nat.zero_le _, rfl, rfl⟩
      case round =>
        obtain ⟨k, rfl, hk, hc, rfl⟩ := hrel
        have HC := Lib.hid hc
        clear hc
        by_cases hkl : k < es.length
        · obtain ⟨y, hy⟩ : ∃ y, es[k]? = some y := ⟨_, List.getElem?_eq_getElem hkl⟩
          have hcell := HR9.out k y hy
          have HY := Lib.hid (HALL.out y (List.mem_of_getElem? hy))
          have hkz : (k : Int) < (es.length : Int) := by omega
          have hyl : y.length ≤ 1099511627776 := HXB.out y (by rw [← HCAT.out]; exact List.mem_append_left _ (List.mem_of_getElem? hy))
          clear hy
          have HAT := Lib.hid (show Calls Tryd.prog 21 #[.string ⟨y.toArray⟩, .string ⟨#[61]⟩, .int .i64 0] w9 (fun e w' => ∃ r, e = .returned (.int .i64 r) ∧ AtRes y [61] 0 r ∧ w' = w9) from at_any ⟨y.toArray⟩ ⟨#[61]⟩ 0 w9 (by rw [Lib.size_eq]; show y.length ≤ _; omega) (by decide) (by omega))
          go_wp2_with (go_at_call 21; (with_reducible refine HAT.out.mono ?_))
          rintro e w10 ⟨r, rfl, hres, rfl⟩
          have hr1 := at_env y r HY.out hres
          clear hres
          dsimp only
          go_wp2
          go_roundg (es.length - (k + 1))
          case measure => have := HC.out; omega
          case rel => exact ⟨k + 1, by go_num, by omega, rfl, rfl⟩
        · have hkz : ¬ (k : Int) < (es.length : Int) := by omega
          go_wp2
          go_ret
          exact ⟨rfl, HB10.out⟩
end Go.Proofs.YtcjfcjlendibpaaDoor
