/- The walk of xstrings.Slice: the pieces of a text between two places, or a panic out of range. -/
import Derived.Test.YtobcoplfniojkaaDoorLen
import Derived.WalkLawsBesides
import Derived.Laws.Build
namespace Go.Proofs.YtobcoplfniojkaaDoor
open Go.RowKit Plain

def sliceBad (n : Nat) (st en : Int) : Bool := decide (st < 0) || decide ((n : Int) < st) || (decide (0 ≤ en) && (decide (en < st) || decide ((n : Int) < en)))
def sliceB (cs : List (List UInt8)) (st en : Int) : List UInt8 := if en < 0 then (cs.drop st.toNat).flatten else ((cs.take en.toNat).drop st.toNat).flatten
def outOfRange : Ending := .panicked [{ v := .iface 9 (.string ⟨#[111, 117, 116, 32, 111, 102, 32, 114, 97, 110, 103, 101]⟩), recovered := false }]
def sliceEnd (cs : List (List UInt8)) (st en : Int) : Ending := if sliceBad cs.length st en = true then outOfRange else .returned (.string ⟨(sliceB cs st en).toArray⟩)
def SlicePost (cs : List (List UInt8)) (st en : Int) (w : World) (e : Ending) (w' : World) : Prop := e = sliceEnd cs st en ∧ Below w.heap.size w w'
theorem post_bad {cs : List (List UInt8)} {st en : Int} {w w' : World} (h : sliceBad cs.length st en = true) (hb : Below w.heap.size w w') : SlicePost cs st en w outOfRange w' := ⟨by unfold sliceEnd; rw [if_pos h], hb⟩
theorem post_good {cs : List (List UInt8)} {st en : Int} {w w' : World} {r : ByteArray} (h : ¬ sliceBad cs.length st en = true) (hr : r.data.toList = sliceB cs st en) (hb : Below w.heap.size w w') : SlicePost cs st en w (.returned (.string r)) w' :=
  ⟨by unfold sliceEnd; rw [if_neg h, ← hr], hb⟩

/-- what the first 'done' pieces of a text leave -/
structure Left (s : ByteArray) (cs : List (List UInt8)) (t : ByteArray) (done : List (List UInt8)) (p : Nat) : Prop where
  bytes : s.data.toList = done.flatten ++ t.data.toList
  pieces : cs = done ++ segs t.data.toList
  place : done.flatten.length = p
theorem Left.size {s t : ByteArray} {cs done : List (List UInt8)} {p : Nat} (h : Left s cs t done p) : p + t.size = s.size := by
  have := congrArg List.length h.bytes
  rw [List.length_append, h.place, ← Lib.size_eq, ← Lib.size_eq] at this
  omega
theorem Left.start (s : ByteArray) : Left s (segs s.data.toList) s [] 0 := ⟨rfl, rfl, rfl⟩
theorem Left.step {s t : ByteArray} {cs done : List (List UInt8)} {p R K : Nat} (h : Left s cs t done p) (k : Head t R K) : Left s cs (t.extract K t.size) (done ++ [t.data.toList.take K]) (p + K) := by
  have e := (rest_of t K).1
  refine ⟨?_, ?_, ?_⟩
  · rw [h.bytes, e, List.flatten_append]
    simp
  · rw [h.pieces, segs_rest t R K k]
    simp
  · rw [List.flatten_append, List.length_append, h.place]
    have : K ≤ t.data.toList.length := by rw [← Lib.size_eq]; exact k.le
    simp only [List.flatten_cons, List.flatten_nil, List.append_nil, List.length_take]
    omega
theorem Left.over {s t : ByteArray} {cs done : List (List UInt8)} {p : Nat} (h : Left s cs t done p) (ht : ¬ 0 < t.size) : cs = done := by
  rw [h.pieces, segs_empty t ht, List.append_nil]
theorem Left.rest {s t : ByteArray} {cs done : List (List UInt8)} {p : Nat} (h : Left s cs t done p) : (s.extract p s.size).data.toList = (cs.drop done.length).flatten := by
  rw [(rest_of s p).1, h.bytes, h.pieces, ← h.place]
  simp [segs_flatten]
theorem Left.le {s t : ByteArray} {cs done : List (List UInt8)} {p : Nat} (h : Left s cs t done p) : done.length ≤ cs.length := by rw [h.pieces]; simp

set_option maxHeartbeats 4000000 in
set_option maxRecDepth 100000 in
theorem slice_early (s : ByteArray) (st en : Int) (w : World) (b1 : -9223372036854775808 ≤ st ∧ st ≤ 9223372036854775807) (b2 : -9223372036854775808 ≤ en ∧ en ≤ 9223372036854775807)
    (h : st < 0 ∨ (s.size : Int) < en ∨ (0 ≤ en ∧ en < st)) : Calls Tryd.prog 43 #[.string s, .int .i64 st, .int .i64 en] w (SlicePost (segs s.data.toList) st en w) := by
  have hn := segs_le s
  by_cases c1 : st < 0
  · go_enter Tryd.func43, Tryd.ntmps43
    go_wp2
    exact ⟨rfl, post_bad (by simp [sliceBad, c1]) (Below.refl _ _)⟩
  by_cases c2 : (s.size : Int) < en
  · have hx : Hid (sliceBad (segs s.data.toList).length st en = true) := Lib.hid (by
      have h1 : 0 ≤ en := by omega
      have h2 : ((segs s.data.toList).length : Int) < en := by omega
      simp [sliceBad, h1, h2])
    go_enter Tryd.func43, Tryd.ntmps43
    go_wp2
    exact ⟨rfl, post_bad hx.out (Below.refl _ _)⟩
  · have c3 : 0 ≤ en := by omega
    have c4 : en < st := by omega
    have hx : Hid (sliceBad (segs s.data.toList).length st en = true) := Lib.hid (by simp [sliceBad, c3, c4])
    go_enter Tryd.func43, Tryd.ntmps43
    go_wp2
    exact ⟨rfl, post_bad hx.out (Below.refl _ _)⟩

set_option maxHeartbeats 4000000 in
set_option maxRecDepth 100000 in
theorem slice_to_end (s : ByteArray) (a0 : Nat) (en : Int) (w : World) (hs : s.size ≤ 2147483647) (b1 : a0 ≤ 9223372036854775807) (b2 : -9223372036854775808 ≤ en) (c2 : en < 0) (hT : Tabs w) :
    Calls Tryd.prog 43 #[.string s, .int .i64 a0, .int .i64 en] w (SlicePost (segs s.data.toList) a0 en w) := by
  have z0 : decide ((a0 : Int) < 0) = false := by simp
  have z1 : decide (0 ≤ en) = false := by simp; omega
  obtain ⟨CS, hCS⟩ : ∃ CS, segs s.data.toList = CS := ⟨_, rfl⟩
  rw [hCS]
  have HC := Lib.hid hCS
  clear hCS
  go_enter Tryd.func43, Tryd.ntmps43
  go_wp2
  go_loopw [0, 1, 8] (fun str sv pv wr => ∃ (t : ByteArray) (k p : Nat) (done : List (List UInt8)), str = .string t ∧ sv = .int .i64 k ∧ pv = .int .i64 p ∧ Left s CS t done p ∧ done.length + k = a0 ∧ p ≤ s.size ∧ t.size ≤ s.size ∧ Below w.heap.size w wr) (fun str _ _ _ => match str with | .string t => t.size | _ => 0)
  case atStart => exact ⟨s, a0, 0, [], rfl, rfl, rfl, HC.out ▸ Left.start s, by simp, by omega, Nat.le_refl _, Below.refl _ _⟩
  case round =>
    obtain ⟨t, k, p, done, rfl, rfl, rfl, hl, hk, hp, hts, hbw⟩ := hrel
    have hz := hl.size
    have hlen := hl.le
    have HL := Lib.hid hl
    have HK := Lib.hid hk
    have HZ := Lib.hid hz
    have hkb : k ≤ 9223372036854775807 := by omega
    clear hl hk hz
    have hTr := hT.below hbw
    by_cases hk0 : 0 < k
    · have hkz : (0 : Int) < (k : Int) := by omega
      by_cases ht0 : 0 < t.size
      · have htz : (0 : Int) < (t.size : Int) := by omega
        obtain ⟨R, K, hh⟩ := head_of t ht0
        have HH := Lib.hid hh
        have hK1 := hh.pos
        have hK2 := hh.le
        have HRS := Lib.hid (rest_of t K).2
        clear hh
        have hpk : p + K ≤ s.size := by have := HZ.out; omega
        go_wp2_with (go_at_call 57; refine (decode_any t _ hTr R K HH).mono ?_; rintro e w1 ⟨rfl, hb1⟩)
        go_roundw
        case rel =>
          have hrs := HRS.out
          refine ⟨_, k - 1, p + K, done ++ [t.data.toList.take K], rfl, by go_num, by go_num, HL.out.step HH.out, ?_, hpk, by omega, hbw.trans (hb1.mono hbw.size)⟩
          have := HK.out
          simp only [List.length_append, List.length_cons, List.length_nil]
          omega
        case measure =>
          have hrs := HRS.out
          simp only [hrs]
          omega
      · have htz : ¬ (0 : Int) < (t.size : Int) := by omega
        go_wp2
        refine ⟨rfl, post_bad ?_ hbw⟩
        have := HL.out.over ht0
        have hk := HK.out
        have h3 : (CS.length : Int) < (a0 : Int) := by rw [this]; omega
        simp [sliceBad]
        omega
    · have hkz : ¬ (0 : Int) < (k : Int) := by omega
      go_wp2
      go_ret
      have hk := HK.out
      refine post_good ?_ ?_ hbw
      · simp [sliceBad]; omega
      · have := HL.out.rest
        unfold sliceB
        rw [if_pos c2, this]
        congr 2
        omega

set_option maxHeartbeats 4000000 in
set_option maxRecDepth 100000 in
theorem slice_to (s : ByteArray) (a0 b0 : Nat) (w : World) (hs : s.size ≤ 2147483647) (b1 : a0 ≤ 9223372036854775807) (c2 : b0 ≤ s.size) (c3 : a0 ≤ b0) (hT : Tabs w) :
    Calls Tryd.prog 43 #[.string s, .int .i64 a0, .int .i64 b0] w (SlicePost (segs s.data.toList) a0 b0 w) := by
  have z0 : decide ((a0 : Int) < 0) = false := by simp
  have z1 : decide ((0 : Int) ≤ (b0 : Int)) = true := by simp
  have z2 : ¬ (s.size : Int) < (b0 : Int) := by omega
  have z3 : ¬ (b0 : Int) < (a0 : Int) := by omega
  have z4 : decide ((b0 : Int) < 0) = false := by simp
  obtain ⟨d0, hd0⟩ : ∃ d0 : Nat, b0 - a0 = d0 := ⟨_, rfl⟩
  have e0 : (b0 : Int) - (a0 : Int) = (d0 : Int) := by omega
  have HD := Lib.hid hd0
  have HE0 := Lib.hid e0
  have hdb : d0 ≤ 2147483647 := by omega
  clear hd0 e0
  obtain ⟨CS, hCS⟩ : ∃ CS, segs s.data.toList = CS := ⟨_, rfl⟩
  rw [hCS]
  have HC := Lib.hid hCS
  clear hCS
  go_enter Tryd.func43, Tryd.ntmps43
  go_wp2
  rw [HE0.out]
  go_loopw [0, 1, 8] (fun str sv pv wr => ∃ (t : ByteArray) (k p : Nat) (done : List (List UInt8)), str = .string t ∧ sv = .int .i64 k ∧ pv = .int .i64 p ∧ Left s CS t done p ∧ done.length + k = a0 ∧ p ≤ s.size ∧ t.size ≤ s.size ∧ Below w.heap.size w wr) (fun str _ _ _ => match str with | .string t => t.size | _ => 0)
  case atStart => exact ⟨s, a0, 0, [], rfl, rfl, rfl, HC.out ▸ Left.start s, by simp, by omega, Nat.le_refl _, Below.refl _ _⟩
  case round =>
    obtain ⟨t, k, p, done, rfl, rfl, rfl, hl, hk, hp, hts, hbw⟩ := hrel
    have hz := hl.size
    have hlen := hl.le
    have HL := Lib.hid hl
    have HK := Lib.hid hk
    have HZ := Lib.hid hz
    have hkb : k ≤ 9223372036854775807 := by omega
    clear hl hk hz
    have hTr := hT.below hbw
    by_cases hk0 : 0 < k
    · have hkz : (0 : Int) < (k : Int) := by omega
      by_cases ht0 : 0 < t.size
      · have htz : (0 : Int) < (t.size : Int) := by omega
        obtain ⟨R, K, hh⟩ := head_of t ht0
        have HH := Lib.hid hh
        have hK1 := hh.pos
        have hK2 := hh.le
        have HRS := Lib.hid (rest_of t K).2
        clear hh
        have hpk : p + K ≤ s.size := by have := HZ.out; omega
        go_wp2_with (go_at_call 57; refine (decode_any t _ hTr R K HH).mono ?_; rintro e w1 ⟨rfl, hb1⟩)
        go_roundw
        case rel =>
          have hrs := HRS.out
          refine ⟨_, k - 1, p + K, done ++ [t.data.toList.take K], rfl, by go_num, by go_num, HL.out.step HH.out, ?_, hpk, by omega, hbw.trans (hb1.mono hbw.size)⟩
          have := HK.out
          simp only [List.length_append, List.length_cons, List.length_nil]
          omega
        case measure =>
          have hrs := HRS.out
          simp only [hrs]
          omega
      · have htz : ¬ (0 : Int) < (t.size : Int) := by omega
        go_wp2
        refine ⟨rfl, post_bad ?_ hbw⟩
        have := HL.out.over ht0
        have hk := HK.out
        have h3 : (CS.length : Int) < (a0 : Int) := by rw [this]; omega
        simp [sliceBad]
        omega
    · have hkz : ¬ (0 : Int) < (k : Int) := by omega
      have hk00 : k = 0 := by omega
      subst hk00
      go_wp2
      obtain ⟨wo, rfl⟩ : ∃ wo : World, wo = wr := ⟨_, rfl⟩
      go_loopw [0, 2, 9] (fun str ev qv wr => ∃ (t2 : ByteArray) (k q : Nat) (done : List (List UInt8)), str = .string t2 ∧ ev = .int .i64 k ∧ qv = .int .i64 q ∧ Left s CS t2 done q ∧ done.length + k = b0 ∧ a0 ≤ done.length ∧ p ≤ q ∧ q ≤ s.size ∧ (s.extract p q).data.toList = (done.drop a0).flatten ∧ t2.size ≤ s.size ∧ Below w.heap.size w wr) (fun str _ _ _ => match str with | .string t => t.size | _ => 0)
      case atStart =>
        refine ⟨t, d0, p, done, rfl, rfl, rfl, HL.out, ?_, ?_, Nat.le_refl _, hp, ?_, hts, hbw⟩
        · have := HK.out; have := HD.out; omega
        · have := HK.out; omega
        · have := HK.out
          rw [Lib.extract_data, List.drop_eq_nil_of_le (by omega : done.length ≤ a0)]
          simp
      case round =>
        obtain ⟨t2, k, q, dn2, rfl, rfl, rfl, hl, hk, had, hpq, hq, hx, hts2, hbw2⟩ := hrel
        have hz := hl.size
        have HL2 := Lib.hid hl
        have HK2 := Lib.hid hk
        have HZ2 := Lib.hid hz
        have HX2 := Lib.hid hx
        have hkb : k ≤ 9223372036854775807 := by omega
        clear hl hk hz hx
        have hTr := hT.below hbw2
        by_cases hk0 : 0 < k
        · have hkz2 : (0 : Int) < (k : Int) := by omega
          by_cases ht0 : 0 < t2.size
          · have htz : (0 : Int) < (t2.size : Int) := by omega
            obtain ⟨R, K, hh⟩ := head_of t2 ht0
            have HH := Lib.hid hh
            have hK1 := hh.pos
            have hK2 := hh.le
            have HRS := Lib.hid (rest_of t2 K).2
            clear hh
            have hpk : q + K ≤ s.size := by have := HZ2.out; omega
            go_wp2_with (go_at_call 57; refine (decode_any t2 _ hTr R K HH).mono ?_; rintro e w1 ⟨rfl, hb1⟩)
            go_roundw
            case rel =>
              have hrs := HRS.out
              refine ⟨_, k - 1, q + K, dn2 ++ [t2.data.toList.take K], rfl, by go_num, by go_num, HL2.out.step HH.out, ?_, by simp; omega, by omega, hpk, ?_, by omega, hbw2.trans (hb1.mono hbw2.size)⟩
              · have := HK2.out
                simp only [List.length_append, List.length_cons, List.length_nil]
                omega
              · have hz2 := HL2.out
                have e2 : (s.extract p (q + K)).data.toList = (s.extract p q).data.toList ++ t2.data.toList.take K := by
                  rw [Lib.extract_data, Lib.extract_data, hz2.bytes, show q + K - p = (q - p) + K by omega, List.take_add]
                  congr 1
                  rw [List.drop_drop, show p + (q - p) = q by omega, ← hz2.place, List.drop_left]
                rw [e2, HX2.out, List.drop_append_of_le_length had, List.flatten_append]
                simp
            case measure =>
              have hrs := HRS.out
              simp only [hrs]
              omega
          · have htz : ¬ (0 : Int) < (t2.size : Int) := by omega
            have htq : ((t2.size : Int) == 0) = true := by rw [beq_iff_eq]; omega
            go_wp2
            refine ⟨rfl, post_bad ?_ hbw2⟩
            have := HL2.out.over ht0
            have hk := HK2.out
            have h3 : (CS.length : Int) < (b0 : Int) := by rw [this]; omega
            simp [sliceBad]
            omega
        · have hkz2 : ¬ (0 : Int) < (k : Int) := by omega
          have hk00 : k = 0 := by omega
          subst hk00
          by_cases ht0 : t2.size = 0
          · have htq : ((t2.size : Int) == 0) = true := by rw [beq_iff_eq]; omega
            go_wp2
            go_ret
            refine post_good ?_ ?_ hbw2
            · have := HL2.out.le; have := HK2.out; simp [sliceBad]; omega
            · have hd : dn2.length = b0 := by have := HK2.out; omega
              rw [HX2.out]
              unfold sliceB
              rw [if_neg (by omega), HL2.out.pieces, Int.toNat_natCast, Int.toNat_natCast, ← hd, List.take_left]
          · have htq : ((t2.size : Int) == 0) = false := by rw [beq_eq_false_iff_ne]; omega
            go_wp2
            go_ret
            refine post_good ?_ ?_ hbw2
            · have := HL2.out.le; have := HK2.out; simp [sliceBad]; omega
            · have hd : dn2.length = b0 := by have := HK2.out; omega
              rw [HX2.out]
              unfold sliceB
              rw [if_neg (by omega), HL2.out.pieces, Int.toNat_natCast, Int.toNat_natCast, ← hd, List.take_left]

theorem slice_any (s : ByteArray) (st en : Int) (w : World) (hs : s.size ≤ 2147483647) (b1 : -9223372036854775808 ≤ st ∧ st ≤ 9223372036854775807) (b2 : -9223372036854775808 ≤ en ∧ en ≤ 9223372036854775807) (hT : Tabs w) :
    Calls Tryd.prog 43 #[.string s, .int .i64 st, .int .i64 en] w (SlicePost (segs s.data.toList) st en w) := by
  by_cases h : st < 0 ∨ (s.size : Int) < en ∨ (0 ≤ en ∧ en < st)
  · exact slice_early s st en w b1 b2 h
  · obtain ⟨a0, rfl⟩ : ∃ a0 : Nat, st = a0 := ⟨st.toNat, by omega⟩
    by_cases c : en < 0
    · exact slice_to_end s a0 en w hs (by omega) b2.1 c hT
    · obtain ⟨b0, rfl⟩ : ∃ b0 : Nat, en = b0 := ⟨en.toNat, by omega⟩
      exact slice_to s a0 b0 w hs (by omega) (by omega) (by omega) hT
end Go.Proofs.YtobcoplfniojkaaDoor
