/- The walks of xstrings.WordSplit, WordCount: the words of a text. -/
import Derived.Test.YtdomnccokhhieaaDoorAlpha
import Derived.Laws.MakeOwn
import Derived.Maps.AppendAt
import Derived.Lib.Hide
namespace Go.Proofs.YtdomnccokhhieaaDoor
open Go.RowKit Plain

theorem infoStr : (Tryd.prog.info? 9).map (fun i => (i.zero, i.size, i.bytes)) = some (some (.string ⟨#[]⟩), 1, 16) := by kernel_rfl
/-- texts as cells -/
def strs (l : List (List UInt8)) : List Value := l.map fun b => Value.string ⟨b.toArray⟩
/-- the words: 'st': the one that is begun -/
def ws : List (List UInt8) → Option (List UInt8) → List (List UInt8)
  | [], none => []
  | [], some w => [w]
  | c :: cs, st => if alpha (runeOf c) = true then ws cs (some (st.getD [] ++ c)) else match st with
    | none => ws cs none
    | some w => if runeOf c = 39 ∨ runeOf c = 45 then ws cs (some (w ++ c)) else w :: ws cs none
theorem ws_alpha (c : List UInt8) (cs : List (List UInt8)) (st : Option (List UInt8)) (h : alpha (runeOf c) = true) : ws (c :: cs) st = ws cs (some (st.getD [] ++ c)) := by cases st <;> simp [ws, h]
theorem ws_skip (c : List UInt8) (cs : List (List UInt8)) (h : alpha (runeOf c) = false) : ws (c :: cs) none = ws cs none := by rw [ws, if_neg (by rw [h]; decide)]
theorem ws_mark (c : List UInt8) (cs : List (List UInt8)) (w : List UInt8) (h : alpha (runeOf c) = false) (k : runeOf c = 39 ∨ runeOf c = 45) : ws (c :: cs) (some w) = ws cs (some (w ++ c)) := by
  rw [ws, if_neg (by rw [h]; decide)]; exact if_pos k
theorem ws_end (c : List UInt8) (cs : List (List UInt8)) (w : List UInt8) (h : alpha (runeOf c) = false) (k : ¬ (runeOf c = 39 ∨ runeOf c = 45)) : ws (c :: cs) (some w) = w :: ws cs none := by
  rw [ws, if_neg (by rw [h]; decide)]; exact if_neg k

theorem own_below {w w' : World} {B : Nat} {e : TypeId} {v : Value} {n : Nat} {xs : List Value} (h : w.ownsRow B e 1 v n xs) (hb : Below w.heap.size w w') : w'.ownsRow B e 1 v n xs := by
  refine ⟨h.1, ?_⟩
  rcases h.2 with hn | ⟨g, c, cur, hv, hB, hg, rest⟩
  · exact .inl hn
  · exact .inr ⟨g, c, cur, hv, hB, (hb.block g (Array.getElem?_eq_some_iff.1 hg).1).trans hg, rest⟩

/-- where the walk of WordSplit stands -/
structure WsAt (s t wd : ByteArray) (pos : Nat) (iw : Bool) (acc : List (List UInt8)) : Prop where
  all : ws (segs s.data.toList) none = acc ++ ws (segs t.data.toList) (if iw then some (wd.data.toList.take pos) else none)
  word : iw = true → wd.data.toList.drop pos = t.data.toList ∧ pos ≤ wd.size
  room : pos + t.size ≤ s.size
  few : acc.length + t.size ≤ s.size
theorem WsAt.start (s : ByteArray) : WsAt s s ⟨#[]⟩ 0 false [] where
  all := rfl
  word := fun h => by cases h
  room := by omega
  few := by simp
section
variable {s t wd : ByteArray} {pos : Nat} {iw : Bool} {acc : List (List UInt8)} {R K : Nat}
theorem WsAt.hd (_h : WsAt s t wd pos iw acc) (hh : Head t R K) : segs t.data.toList = t.data.toList.take K :: segs (t.extract K t.size).data.toList ∧ runeOf (t.data.toList.take K) = R := ⟨segs_rest t R K hh, hh.run.symm⟩
theorem WsAt.begin (h : WsAt s t wd pos false acc) (hh : Head t R K) (ha : alpha R = true) : WsAt s (t.extract K t.size) t K true acc := by
  have hd := h.hd hh
  have hle := hh.le
  have hr := rest_of t K
  refine ⟨?_, fun _ => ⟨hr.1.symm, hle⟩, ?_, ?_⟩
  · rw [h.all, hd.1, ws_alpha _ _ _ (by rw [hd.2]; exact ha)]; simp
  · have := h.room; rw [hr.2]; omega
  · have := h.few; rw [hr.2]; omega
theorem WsAt.more (h : WsAt s t wd pos true acc) (hh : Head t R K) (ha : alpha R = true ∨ (alpha R = false ∧ (R = 39 ∨ R = 45))) : WsAt s (t.extract K t.size) wd (pos + K) true acc := by
  have hd := h.hd hh
  have hle := hh.le
  have hr := rest_of t K
  have hw := h.word rfl
  have hlen : wd.size - pos = t.size := by
    have := congrArg List.length hw.1
    rw [List.length_drop, ← Lib.size_eq, ← Lib.size_eq] at this
    exact this
  have hw2 := hw.2
  refine ⟨?_, fun _ => ⟨by rw [hr.1, ← hw.1, List.drop_drop], by omega⟩, ?_, ?_⟩
  · have e : wd.data.toList.take (pos + K) = wd.data.toList.take pos ++ t.data.toList.take K := by rw [List.take_add, hw.1]
    rw [h.all, hd.1]
    rcases ha with ha | ⟨ha, hk⟩
    · rw [ws_alpha _ _ _ (by rw [hd.2]; exact ha)]; simp [e]
    · simp only [if_true]
      rw [ws_mark _ _ _ (by rw [hd.2]; exact ha) (by rw [hd.2]; exact hk), e]
  · have := h.room; rw [hr.2]; omega
  · have := h.few; rw [hr.2]; omega
theorem WsAt.skip (h : WsAt s t wd pos false acc) (hh : Head t R K) (ha : alpha R = false) : WsAt s (t.extract K t.size) wd (pos + K) false acc := by
  have hd := h.hd hh
  have hle := hh.le
  have hr := rest_of t K
  refine ⟨?_, (fun h => by cases h), ?_, ?_⟩
  · rw [h.all, hd.1]
    simp only [Bool.false_eq_true, if_false]
    rw [ws_skip _ _ (by rw [hd.2]; exact ha)]
  · have := h.room; rw [hr.2]; omega
  · have := h.few; rw [hr.2]; omega
theorem WsAt.stop (h : WsAt s t wd pos true acc) (hh : Head t R K) (ha : alpha R = false) (hk : ¬ (R = 39 ∨ R = 45)) : WsAt s (t.extract K t.size) wd (pos + K) false (acc ++ [wd.data.toList.take pos]) := by
  have hd := h.hd hh
  have hle := hh.le
  have hpos := hh.pos
  have hr := rest_of t K
  refine ⟨?_, (fun h => by cases h), ?_, ?_⟩
  · rw [h.all, hd.1]
    simp only [Bool.false_eq_true, if_false, if_true]
    rw [ws_end _ _ _ (by rw [hd.2]; exact ha) (by rw [hd.2]; exact hk)]
    simp
  · have := h.room; rw [hr.2]; omega
  · have := h.few; rw [hr.2, List.length_append]; simp; omega
theorem WsAt.fin0 (h : WsAt s t wd pos false acc) (h0 : ¬ 0 < t.size) : ws (segs s.data.toList) none = acc := by
  rw [h.all, segs_empty t h0]; simp [ws]
theorem WsAt.fin1 (h : WsAt s t wd pos true acc) (h0 : ¬ 0 < t.size) : ws (segs s.data.toList) none = acc ++ [wd.data.toList.take pos] := by
  rw [h.all, segs_empty t h0]; simp [ws]
end
theorem take_str (wd : ByteArray) (pos : Nat) : wd.extract 0 pos = ⟨(wd.data.toList.take pos).toArray⟩ := by
  apply ByteArray.ext
  apply Array.toList_inj.1
  rw [Lib.extract_data]
  simp

set_option maxHeartbeats 4000000 in
set_option maxRecDepth 100000 in
theorem wordSplit_any (s : ByteArray) (w : World) (hs : s.size ≤ 2147483647) (hT : Tabs w) (hP : PTab w) (hV : LTab w) :
    Calls Tryd.prog 38 #[.string s] w fun e w' => ∃ ad cap, e = .returned (.slice ad (ws (segs s.data.toList) none).length cap) ∧ w'.ownsRow w.heap.size 9 1 (.slice ad (ws (segs s.data.toList) none).length cap) (ws (segs s.data.toList) none).length (strs (ws (segs s.data.toList) none)) ∧ Below w.heap.size w w' := by
  obtain ⟨i0, hi, hz0, hz1, hz2⟩ := info_parts infoStr
  obtain ⟨Z, hZ⟩ : ∃ Z, ws (segs s.data.toList) none = Z := ⟨_, rfl⟩
  rw [hZ]
  have HZ := Lib.hid hZ
  clear hZ
  go_enter Tryd.func38, Tryd.ntmps38
  go_wp2
  go_loopw [0, 3, 4, 7, 8] (fun str wv v0 pv iv wr => ∃ (t wd : ByteArray) (pos : Nat) (iw : Bool) (acc : List (List UInt8)) (n : Nat), str = .string t ∧ wv = .string wd ∧ pv = .int .i64 pos ∧ iv = .bool iw ∧ n = acc.length ∧ WsAt s t wd pos iw acc ∧ wr.ownsRow w.heap.size 9 1 v0 n (strs acc) ∧ Below w.heap.size w wr) (fun str _ _ _ _ _ => match str with | .string t => t.size | _ => 0)
  case atStart => exact ⟨s, ⟨#[]⟩, 0, false, [], 0, rfl, rfl, rfl, rfl, rfl, WsAt.start s, World.ownsRow_nil _ _ _ _, Below.refl _ _⟩
  case round =>
    obtain ⟨t, wd, pos, iw, acc, n, rfl, rfl, rfl, rfl, hn, ha, hown, hbw⟩ := hrel
    have hTr := hT.below hbw
    have hPr := hP.below hbw
    have hVr := hV.below hbw
    have hroom := ha.room
    have hfew : n + t.size ≤ s.size := by rw [hn]; exact ha.few
    have hmx : n + 1 ≤ maxLen := by unfold maxLen; omega
    have HA := Lib.hid ha
    have HNn := Lib.hid hn
    have hwd := ha.word
    clear ha hn
    by_cases ht0 : 0 < t.size
    · have htz : (0 : Int) < (t.size : Int) := by omega
      obtain ⟨R, K, hh⟩ := head_of t ht0
      have HH := Lib.hid hh
      have hK1 := hh.pos
      have hK2 := hh.le
      have HRS := Lib.hid (rest_of t K)
      have hR1 := hh.rune
      clear hh
      cases hal : alpha R with
      | true =>
        have HAl := Lib.hid (fun (w : World) (h1 : PTab w) (h2 : LTab w) => hal ▸ alpha_any R w hR1 h1 h2)
        cases iw with
        | false =>
          clear hwd
          go_wp2_with (go_at_call 51; (with_reducible refine (decode_any t _ hTr _ K HH).mono ?_); rintro e w1 ⟨rfl, hb1⟩; dsimp only)
          have hP1 := hPr.below hb1
          have hV1 := hVr.below hb1
          go_wp2_with (go_at_call 53; (with_reducible refine (HAl.out _ hP1 hV1).mono ?_); rintro e w2 ⟨rfl, hb2⟩; dsimp only)
          have hb12 := bthen hb1 hb2
          have hbw2 : Below w.heap.size w w2 := hbw.trans (hb12.mono hbw.size)
          have hown2 := own_below hown hb12
          go_wp2
          go_roundw
          case rel =>
            exact ⟨_, t, K, true, acc, n, rfl, rfl, by go_num, rfl, HNn.out, HA.out.begin HH.out hal, hown2, hbw2⟩
          case measure =>
            have hrs := HRS.out.2
            simp only [hrs]
            omega
        | true =>
          clear hwd
          go_wp2_with (go_at_call 51; (with_reducible refine (decode_any t _ hTr _ K HH).mono ?_); rintro e w1 ⟨rfl, hb1⟩; dsimp only)
          have hP1 := hPr.below hb1
          have hV1 := hVr.below hb1
          go_wp2_with (go_at_call 53; (with_reducible refine (HAl.out _ hP1 hV1).mono ?_); rintro e w2 ⟨rfl, hb2⟩; dsimp only)
          have hb12 := bthen hb1 hb2
          have hbw2 : Below w.heap.size w w2 := hbw.trans (hb12.mono hbw.size)
          have hown2 := own_below hown hb12
          go_wp2
          go_roundw
          case rel =>
            exact ⟨_, wd, pos + K, true, acc, n, rfl, rfl, by go_num, rfl, HNn.out, HA.out.more HH.out (.inl hal), hown2, hbw2⟩
          case measure =>
            have hrs := HRS.out.2
            simp only [hrs]
            omega
      | false =>
        have HAl := Lib.hid (fun (w : World) (h1 : PTab w) (h2 : LTab w) => hal ▸ alpha_any R w hR1 h1 h2)
        cases iw with
        | false =>
          clear hwd
          go_wp2_with (go_at_call 51; (with_reducible refine (decode_any t _ hTr _ K HH).mono ?_); rintro e w1 ⟨rfl, hb1⟩; dsimp only)
          have hP1 := hPr.below hb1
          have hV1 := hVr.below hb1
          go_wp2_with (go_at_call 53; (with_reducible refine (HAl.out _ hP1 hV1).mono ?_); rintro e w2 ⟨rfl, hb2⟩; dsimp only)
          have hb12 := bthen hb1 hb2
          have hbw2 : Below w.heap.size w w2 := hbw.trans (hb12.mono hbw.size)
          have hown2 := own_below hown hb12
          go_wp2
          go_roundw
          case rel =>
            exact ⟨_, wd, pos + K, false, acc, n, rfl, rfl, by go_num, rfl, HNn.out, HA.out.skip HH.out hal, hown2, hbw2⟩
          case measure =>
            have hrs := HRS.out.2
            simp only [hrs]
            omega
        | true =>
          have hpw := (hwd rfl).2
          clear hwd
          by_cases k1 : R = 39
          · have k2 : (((R : Int)) == 39) = true := by rw [beq_iff_eq]; omega
            have K1 := Lib.hid k1
            clear k1
            go_wp2_with (go_at_call 51; (with_reducible refine (decode_any t _ hTr _ K HH).mono ?_); rintro e w1 ⟨rfl, hb1⟩; dsimp only)
            have hP1 := hPr.below hb1
            have hV1 := hVr.below hb1
            go_wp2_with (go_at_call 53; (with_reducible refine (HAl.out _ hP1 hV1).mono ?_); rintro e w2 ⟨rfl, hb2⟩; dsimp only)
            have hb12 := bthen hb1 hb2
            have hbw2 : Below w.heap.size w w2 := hbw.trans (hb12.mono hbw.size)
            have hown2 := own_below hown hb12
            go_wp2
            go_roundw
            case rel =>
              exact ⟨_, wd, pos + K, true, acc, n, rfl, rfl, by go_num, rfl, HNn.out, HA.out.more HH.out (.inr ⟨hal, .inl K1.out⟩), hown2, hbw2⟩
            case measure =>
              have hrs := HRS.out.2
              simp only [hrs]
              omega
          have k2 : (((R : Int)) == 39) = false := by rw [beq_eq_false_iff_ne]; omega
          by_cases k3 : R = 45
          · have k4 : (((R : Int)) == 45) = true := by rw [beq_iff_eq]; omega
            have K3 := Lib.hid k3
            clear k3
            go_wp2_with (go_at_call 51; (with_reducible refine (decode_any t _ hTr _ K HH).mono ?_); rintro e w1 ⟨rfl, hb1⟩; dsimp only)
            have hP1 := hPr.below hb1
            have hV1 := hVr.below hb1
            go_wp2_with (go_at_call 53; (with_reducible refine (HAl.out _ hP1 hV1).mono ?_); rintro e w2 ⟨rfl, hb2⟩; dsimp only)
            have hb12 := bthen hb1 hb2
            have hbw2 : Below w.heap.size w w2 := hbw.trans (hb12.mono hbw.size)
            have hown2 := own_below hown hb12
            go_wp2
            go_roundw
            case rel =>
              exact ⟨_, wd, pos + K, true, acc, n, rfl, rfl, by go_num, rfl, HNn.out, HA.out.more HH.out (.inr ⟨hal, .inr K3.out⟩), hown2, hbw2⟩
            case measure =>
              have hrs := HRS.out.2
              simp only [hrs]
              omega
          · have k4 : (((R : Int)) == 45) = false := by rw [beq_eq_false_iff_ne]; omega
            go_wp2_with (go_at_call 51; (with_reducible refine (decode_any t _ hTr _ K HH).mono ?_); rintro e w1 ⟨rfl, hb1⟩; dsimp only)
            have hP1 := hPr.below hb1
            have hV1 := hVr.below hb1
            go_wp2_with (go_at_call 53; (with_reducible refine (HAl.out _ hP1 hV1).mono ?_))
            rintro e w2 ⟨rfl, hb2⟩
            dsimp only
            have hb12 := bthen hb1 hb2
            have hbw2 : Below w.heap.size w w2 := hbw.trans (hb12.mono hbw.size)
            have hown2 := own_below hown hb12
            have hsz := hbw2.size
            go_wp2_with (at_builtin; refine wpList_append_own _ rfl (.tmp 18) (.tmp 22) 31 rfl w.heap.size 9 i0 (.string ⟨#[]⟩) 1 16 Tryd.underlying31 hi hz0 hz1 hz2 rfl (by decide) _ _ _ rfl (hown2.alloc _) ⟨w2.heap.size, 0, none⟩ 1 1 [.string (wd.extract 0 pos)] rfl rfl (by exact cell_one_new _ _ _) (by intro u hu; simp at hu; subst hu; rfl) hmx (by omega) (by simp; omega) ?_)
            intro v' w3 hown3 hgr _
            have hbw3 : Below w.heap.size w w3 := (hbw2.alloc hsz _).grown hgr (by simp; omega) (fun k hk => (hown2.lt k hk).1)
            go_wp2
            go_roundw
            case rel =>
              refine ⟨_, wd, pos + K, false, _, n + 1, rfl, rfl, by go_num, rfl, ?_, HA.out.stop HH.out hal (by omega), ?_, hbw3⟩
              · rw [List.length_append, HNn.out]; rfl
              · rw [take_str] at hown3
                simpa [strs] using hown3
            case measure =>
              have hrs := HRS.out.2
              simp only [hrs]
              omega
    · have htz : ¬ (0 : Int) < (t.size : Int) := by omega
      cases iw with
      | false =>
        have hfin := HA.out.fin0 ht0
        obtain ⟨ad, cap, hu⟩ : ∃ ad cap, u4 = .slice ad n cap := by
          rcases hown.2 with ⟨hv, h0⟩ | ⟨g, cap', cur, hv, _⟩
          · exact ⟨none, 0, by rw [hv, h0]⟩
          · exact ⟨_, _, hv⟩
        have HUU := Lib.hid hu
        clear hu
        go_wp2
        go_ret
        rw [HZ.out] at hfin
        rw [hfin, ← HNn.out]
        exact ⟨ad, cap, congrArg Ending.returned HUU.out, HUU.out ▸ hown, hbw⟩
      | true =>
        have hfin := HA.out.fin1 ht0
        have hpw := (hwd rfl).2
        have hsz := hbw.size
        clear hwd
        go_wp2_with (at_builtin; refine wpList_append_own _ rfl (.tmp 47) (.tmp 51) 31 rfl w.heap.size 9 i0 (.string ⟨#[]⟩) 1 16 Tryd.underlying31 hi hz0 hz1 hz2 rfl (by decide) _ _ _ rfl (hown.alloc _) ⟨wr.heap.size, 0, none⟩ 1 1 [.string (wd.extract 0 pos)] rfl rfl (by exact cell_one_new _ _ _) (by intro u hu; simp at hu; subst hu; rfl) hmx (by omega) (by simp; omega) ?_)
        intro v' w3 hown3 hgr _
        have hbw3 : Below w.heap.size w w3 := (hbw.alloc hsz _).grown hgr (by simp; omega) (fun k hk => (hown.lt k hk).1)
        obtain ⟨ad2, cap2, rfl⟩ : ∃ ad cap', v' = .slice ad (n + 1) cap' := by
          rcases hown3.2 with ⟨hv, h0⟩ | ⟨g, cap', cur, hv, _⟩
          · omega
          · exact ⟨_, _, hv⟩
        go_wp2
        go_ret
        rw [HZ.out] at hfin
        have hl : Z.length = n + 1 := by rw [hfin, List.length_append, HNn.out]; rfl
        rw [hl]
        refine ⟨ad2, cap2, rfl, ?_, hbw3⟩
        rw [take_str] at hown3
        rw [hfin]
        simpa [strs] using hown3
end Go.Proofs.YtdomnccokhhieaaDoor
