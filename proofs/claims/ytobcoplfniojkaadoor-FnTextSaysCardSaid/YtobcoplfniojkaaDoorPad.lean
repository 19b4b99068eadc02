/- The walk of xstrings.writePadString: as many pieces of a text as are asked for, round and round. -/
import Derived.Test.YtobcoplfniojkaaDoorBuild
import Derived.Test.YtobcoplfniojkaaDoorReverse
namespace Go.Proofs.YtobcoplfniojkaaDoor
open Go.RowKit Plain

/-- 'k' pieces, round and round -/
def padOf (ps : List (List UInt8)) (k : Nat) : List UInt8 := (List.replicate (k / ps.length) ps.flatten).flatten ++ (ps.take (k % ps.length)).flatten

theorem segs_pos {t : ByteArray} (h : 0 < t.size) : 0 < (segs t.data.toList).length := by
  rcases Nat.eq_zero_or_pos (segs t.data.toList).length with e | e
  · have := (segs_eq_nil _).1 (List.eq_nil_of_length_eq_zero e)
    rw [Lib.size_eq, this] at h
    simp at h
  · exact e

set_option maxHeartbeats 2000000 in
set_option maxRecDepth 100000 in
theorem writePad_any (b : Nat) (l : List UInt8) (p : ByteArray) (k : Nat) (w : World) (h : IsB b l w) (hT : TabsB b w) (hp : 0 < p.size) (hps : p.size ≤ 2147483647) (hk : k ≤ 2147483647) (hlen : l.length + (k / (segs p.data.toList).length + 1) * p.size ≤ 140737488355328) :
    Calls Tryd.prog 60 #[.pointer (some ⟨b, 0, none⟩), .string p, .int .i64 ((segs p.data.toList).length : Int), .int .i64 (k : Int)] w fun e w' => e = .returned (.tuple #[]) ∧ IsB b (l ++ padOf (segs p.data.toList) k) w' ∧ Below b w w' := by
  have hn := segs_pos hp
  have hn2 : (segs p.data.toList).length ≤ 2147483647 := Nat.le_trans (segs_le p) hps
  obtain ⟨n, hnn⟩ : ∃ n, (segs p.data.toList).length = n := ⟨_, rfl⟩
  rw [hnn] at hn hn2 hlen
  rw [hnn]
  obtain ⟨q, hq⟩ : ∃ q, k / n = q := ⟨_, rfl⟩
  obtain ⟨r, hr⟩ : ∃ r, k % n = r := ⟨_, rfl⟩
  have hqk : q ≤ k := by rw [← hq]; exact Nat.div_le_self _ _
  have hrn : r < n := by rw [← hr]; exact Nat.mod_lt _ hn
  have hquo : Int.tdiv (k : Int) (n : Int) = (q : Int) := by rw [← hq]; rfl
  have hrem : Int.tmod (k : Int) (n : Int) = (r : Int) := by rw [← hr]; rfl
  have HL := Lib.hid hlen
  have HN := Lib.hid hnn
  clear hlen hnn
  go_enter Tryd.func60, Tryd.ntmps60
  obtain ⟨P, hP⟩ : ∃ P, p.data.toList = P := ⟨_, rfl⟩
  have hPl : P.length = p.size := by rw [← hP, Lib.size_eq]
  have HP := Lib.hid hP
  clear hP
  obtain ⟨S, hS⟩ : ∃ S, p.size = S := ⟨_, rfl⟩
  rw [hS] at hPl hp hps
  have HS := Lib.hid hS
  go_wp2
  go_loopw [10] (fun iv wr => ∃ (i : Nat), iv = .int .i64 i ∧ i ≤ q ∧ IsB b (l ++ (List.replicate i P).flatten) wr ∧ Below b w wr) (fun iv _ => match iv with | .int _ i => q - i.toNat | _ => 0)
  case atStart => exact ⟨0, rfl, Nat.zero_le _, by simpa using h, Below.refl _ _⟩
  case round =>
    obtain ⟨i, rfl, hiq, hb, hbw⟩ := hrel
    have hTr := hT.below hbw
    by_cases hlt : i < q
    · have hz : (i : Int) < (q : Int) := by omega
      have hl1 : (l ++ (List.replicate i P).flatten).length + p.size ≤ 140737488355328 := by
        have h1 := HL.out
        rw [hq] at h1
        have h2 : i * S + S ≤ (q + 1) * S := by
          rw [← Nat.succ_mul]; exact Nat.mul_le_mul_right _ (by omega)
        simp only [List.length_append, List.length_flatten, List.map_replicate, List.sum_replicate_nat, hPl]
        rw [hS] at h1 ⊢
        omega
      have HL1 := Lib.hid hl1
      clear hl1
      go_wp2_with (go_at_call 61; (with_reducible refine (writeString_any b _ p _ hb HL1.out).mono ?_); rintro e w1 ⟨rfl, hb1, hw1, -⟩)
      go_roundw
      case rel =>
        refine ⟨i + 1, by go_num, by omega, ?_, hbw.trans hw1⟩
        rw [HP.out] at hb1
        rw [List.replicate_succ', List.flatten_append]
        simpa using hb1
      case measure => show q - ((i : Int) + 1).toNat < q - (i : Int).toNat; omega
    · have hz : ¬ (i : Int) < (q : Int) := by omega
      obtain rfl : i = q := by omega
      have HT := Lib.hid hTr
      have HB := Lib.hid hb
      have HBW := Lib.hid hbw
      have hPf : (segs p.data.toList).flatten = P := by rw [segs_flatten]; exact HP.out
      have HF := Lib.hid hPf
      clear hPf
      by_cases hr0 : r = 0
      · subst hr0
        go_wp2
        go_end0
        refine ⟨rfl, ?_, HBW.out⟩
        have h1 := HB.out
        unfold padOf
        rw [HN.out, hq, hr, HF.out]
        simpa using h1
      · have hrz : (((r : Int)) == 0) = false := by rw [beq_eq_false_iff_ne]; omega
        go_wp2
        go_loopw [1, 11] (fun tv jv wr => ∃ (t : ByteArray) (j : Nat) (D : List UInt8), tv = .string t ∧ jv = .int .i64 j ∧ j ≤ r ∧ D = ((segs p.data.toList).take j).flatten ∧ segs t.data.toList = (segs p.data.toList).drop j ∧ D.length + t.size = S ∧ IsB b (l ++ (List.replicate i P).flatten ++ D) wr ∧ Below b w wr) (fun _ jv _ => match jv with | .int _ j => r - j.toNat | _ => 0)
        case atStart => exact ⟨p, 0, [], rfl, rfl, Nat.zero_le _, rfl, rfl, by simpa using HS.out, by simpa using HB.out, HBW.out⟩
        case round =>
          obtain ⟨t, j, D, rfl, rfl, hjr, hD, hsg, hDt, hb, hbw⟩ := hrel
          have hTr := hT.below hbw
          have HD := Lib.hid hD
          have HSG := Lib.hid hsg
          have HDT := Lib.hid hDt
          clear hD hsg hDt
          by_cases hlt : j < r
          · have hz : (j : Int) < (r : Int) := by omega
            have ht0 : 0 < t.size := by
              rcases Nat.eq_zero_or_pos t.size with e | e
              · have h1 := HSG.out
                rw [segs_empty t (by omega)] at h1
                have h2 := congrArg List.length h1
                rw [List.length_drop, HN.out] at h2
                simp at h2
                omega
              · exact e
            obtain ⟨R, K, hh⟩ := head_of t ht0
            have HH := Lib.hid hh
            have hK1 := hh.pos
            have hK2 := hh.le
            have HRS := Lib.hid (rest_of t K)
            have HGR := Lib.hid (segs_rest t R K hh)
            clear hh
            have hts : t.size ≤ 2147483647 := by have := HDT.out; omega
            go_wp2_with (go_at_call 57; (with_reducible refine (decode_any t _ hTr.tabs R K HH).mono ?_); rintro e w1 ⟨rfl, hb1⟩)
            have hbw1 : Below b w w1 := hbw.trans (hb1.mono (Nat.le_of_lt hb.lt))
            have hbb := hb.below hb1
            have hx : (t.extract 0 K).data.toList = t.data.toList.take K := by rw [Lib.extract_data]; simp
            have hxs : (t.extract 0 K).size = K := by simp; omega
            have hl1 : (l ++ (List.replicate i P).flatten ++ D).length + (t.extract 0 K).size ≤ 140737488355328 := by
              have h1 := HL.out
              have h3 := HDT.out
              rw [hq, Nat.succ_mul] at h1
              simp only [List.length_append, List.length_flatten, List.map_replicate, List.sum_replicate_nat, hPl]
              rw [hS] at h1
              rw [hxs]
              omega
            have HL1 := Lib.hid hl1
            have HX := Lib.hid hx
            clear hl1 hx hxs
            go_wp2_with (go_at_call 61; (with_reducible refine (writeString_any b _ _ _ hbb HL1.out).mono ?_); rintro e w2 ⟨rfl, hb2, hw2, -⟩)
            go_roundw
            case rel =>
              have hrs := HRS.out
              refine ⟨_, j + 1, D ++ t.data.toList.take K, rfl, by go_num, by omega, ?_, ?_, ?_, ?_, hbw1.trans hw2⟩
              · have h1 := HSG.out
                have h2 := HGR.out
                rw [HD.out]
                have h3 : (segs p.data.toList)[j]? = some (t.data.toList.take K) := by
                  have := congrArg (fun x => x[0]?) (h1.symm.trans h2)
                  simpa using this
                rw [List.take_add_one, h3]
                simp
              · have h1 := HSG.out
                rw [HGR.out] at h1
                have := congrArg List.tail h1
                simpa using this
              · rw [List.length_append, List.length_take, ← Lib.size_eq, hrs.2]
                have := HDT.out
                omega
              · rw [HX.out] at hb2
                simpa using hb2
            case measure => show r - ((j : Int) + 1).toNat < r - (j : Int).toNat; omega
          · have hz : ¬ (j : Int) < (r : Int) := by omega
            obtain rfl : j = r := by omega
            go_wp2
            go_end0
            refine ⟨rfl, ?_, hbw⟩
            unfold padOf
            rw [HN.out, hq, hr, HF.out, ← HD.out]
            simpa using hb
end Go.Proofs.YtobcoplfniojkaaDoor
