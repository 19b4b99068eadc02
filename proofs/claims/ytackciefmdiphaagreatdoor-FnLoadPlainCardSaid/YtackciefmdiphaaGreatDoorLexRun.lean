/- The lexer's errorf, peek, accept, acceptRun. -/
import Derived.Test.YtackciefmdiphaaGreatDoorLexEmit
import Derived.Test.YtackciefmdiphaaGreatDoorLexIdx
set_option linter.unusedVariables false
namespace Go.Proofs.YtackciefmdiphaaGreatDoor
open Go.RowKit Plain

/-- the lexer, whatever the last width -/
def LY (B lb : Nat) (s : ByteArray) (pos start : Nat) (rs : List Nat) (its : List LI) (w : World) : Prop := ∃ wd, LX B lb s pos start wd rs its w
theorem LY.below {B lb pos start : Nat} {s : ByteArray} {rs : List Nat} {its : List LI} {w w' : World} (h : LY B lb s pos start rs its w) (hb : Below w.heap.size w w') : LY B lb s pos start rs its w' := by
  obtain ⟨wd, h⟩ := h
  exact ⟨wd, h.below hb⟩
theorem LY.lt {B lb pos start : Nat} {s : ByteArray} {rs : List Nat} {its : List LI} {w : World} (h : LY B lb s pos start rs its w) : B ≤ w.heap.size := by
  obtain ⟨wd, h⟩ := h
  exact Nat.le_trans h.lo (Nat.le_of_lt h.lt)
def YPost (B lb : Nat) (s : ByteArray) (pos start : Nat) (rs : List Nat) (its : List LI) (r : Ending) (w : World) (e : Ending) (w' : World) : Prop := e = r ∧ LY B lb s pos start rs its w' ∧ Below B w w'
theorem nextY_at (B lb pos start : Nat) (s : ByteArray) (rs : List Nat) (its : List LI) (w : World) (h : LY B lb s pos start rs its w) (hs : s.size ≤ 2147483647) (hp : pos < s.size) (hT : TabsL B w) (R K : Nat) (hR : rAt s pos = R) (hK : kAt s pos = K) :
    Calls Tryz.prog 114 #[.pointer (some ⟨lb, 0, none⟩)] w (NextPost B lb s start rs its (R : Int) (pos + K) K w) := by
  have hB := h.lt
  obtain ⟨wd, h⟩ := h
  exact next_at B lb pos start wd s rs its w h hB hs hp hT R K hR hK
theorem nextY_end (B lb pos start : Nat) (s : ByteArray) (rs : List Nat) (its : List LI) (w : World) (h : LY B lb s pos start rs its w) (hs : s.size ≤ 2147483647) (hp : ¬ pos < s.size) (hp2 : pos ≤ s.size) :
    Calls Tryz.prog 114 #[.pointer (some ⟨lb, 0, none⟩)] w (NextPost B lb s start rs its (-1) pos 0 w) := by
  have hB := h.lt
  obtain ⟨wd, h⟩ := h
  exact next_end B lb pos start wd s rs its w h hB hs hp hp2
theorem emitY (B lb pos start k : Nat) (s : ByteArray) (rs : List Nat) (its : List LI) (w : World) (h : LY B lb s pos start rs its w) (hn : its.length ≤ 1000000) :
    Calls Tryz.prog 116 #[.pointer (some ⟨lb, 0, none⟩), .int .i64 (k : Int)] w (YPost B lb s pos pos [] (its ++ [⟨k, start, textOf rs⟩]) (.returned (.tuple #[])) w) := by
  have hB := h.lt
  obtain ⟨wd, h⟩ := h
  exact (emit_any B lb pos start wd k s rs its w h hB hn).mono fun e w' h => ⟨h.1, ⟨wd, h.2.1⟩, h.2.2⟩
theorem ignoreY (B lb pos start : Nat) (s : ByteArray) (rs : List Nat) (its : List LI) (w : World) (h : LY B lb s pos start rs its w) :
    Calls Tryz.prog 118 #[.pointer (some ⟨lb, 0, none⟩)] w (YPost B lb s pos pos rs its (.returned (.tuple #[])) w) := by
  obtain ⟨wd, h⟩ := h
  exact (ignore_any B lb pos start wd s rs its w h).mono fun e w' h => ⟨h.1, ⟨wd, h.2.1⟩, h.2.2⟩
theorem appendY (B lb pos start R : Nat) (s : ByteArray) (rs : List Nat) (its : List LI) (w : World) (h : LY B lb s pos start rs its w) (hn : rs.length ≤ 2147483647) :
    Calls Tryz.prog 131 #[.pointer (some ⟨lb, 0, none⟩), .int .i32 (R : Int)] w (YPost B lb s pos start (rs ++ [R]) its (.returned (.tuple #[])) w) := by
  have hB := h.lt
  obtain ⟨wd, h⟩ := h
  exact (append_any B lb pos start wd R s rs its w h hB hn).mono fun e w' h => ⟨h.1, ⟨wd, h.2.1⟩, h.2.2⟩
theorem backupY (B lb p K start : Nat) (s : ByteArray) (rs : List Nat) (its : List LI) (w : World) (h : LX B lb s (p + K) start K rs its w) (hs : p + K ≤ 2147483647) :
    Calls Tryz.prog 122 #[.pointer (some ⟨lb, 0, none⟩)] w (YPost B lb s p start rs its (.returned (.tuple #[])) w) :=
  (backup_any B lb p K start s rs its w h hs).mono fun e w' h => ⟨h.1, ⟨K, h.2.1⟩, h.2.2⟩
set_option maxHeartbeats 4000000 in
set_option maxRecDepth 100000 in
theorem peek_at (B lb pos start : Nat) (s : ByteArray) (rs : List Nat) (its : List LI) (w : World) (h : LY B lb s pos start rs its w) (hs : s.size ≤ 2147483647) (hp : pos < s.size) (hT : TabsL B w) (R : Nat) (hR : rAt s pos = R) :
    Calls Tryz.prog 164 #[.pointer (some ⟨lb, 0, none⟩)] w (YPost B lb s pos start rs its (.returned (.int .i32 (R : Int))) w) := by
  unfold YPost
  obtain ⟨K, hK⟩ : ∃ K, kAt s pos = K := ⟨_, rfl⟩
  have hk := kAt_pos s pos hp
  rw [hK] at hk
  have HN := Lib.hid (nextY_at B lb pos start s rs its w h hs hp hT R K hR hK)
  have HBK := Lib.hid (fun w' (h : LX B lb s (pos + K) start K rs its w') => backupY B lb pos K start s rs its w' h (by omega))
  clear h hT hR hK hk
  go_enter Tryz.func164, Tryz.ntmps164
  go_wp2_with (go_at_call 114; (with_reducible refine HN.out.mono ?_); rintro e w1 ⟨rfl, hx, hb1⟩; dsimp only)
  have HX := Lib.hid hx
  have HB1 := Lib.hid hb1
  clear hx hb1
  go_wp2_with (go_at_call 122; (with_reducible refine (HBK.out _ HX.out).mono ?_); rintro e w2 ⟨rfl, hy, hb2⟩; dsimp only)
  have HY := Lib.hid hy
  have HB2 := Lib.hid (HB1.out.trans hb2)
  clear hy hb2
  go_wp2
  go_ret
  exact ⟨rfl, HY.out, HB2.out⟩
set_option maxHeartbeats 4000000 in
set_option maxRecDepth 100000 in
theorem peek_end (B lb pos start : Nat) (s : ByteArray) (rs : List Nat) (its : List LI) (w : World) (h : LY B lb s pos start rs its w) (hs : s.size ≤ 2147483647) (hp : ¬ pos < s.size) (hp2 : pos ≤ s.size) :
    Calls Tryz.prog 164 #[.pointer (some ⟨lb, 0, none⟩)] w (YPost B lb s pos start rs its (.returned (.int .i32 (-1))) w) := by
  unfold YPost
  have HN := Lib.hid (nextY_end B lb pos start s rs its w h hs hp hp2)
  have HBK := Lib.hid (fun w' (h : LX B lb s (pos + 0) start 0 rs its w') => backupY B lb pos 0 start s rs its w' h (by omega))
  clear h
  go_enter Tryz.func164, Tryz.ntmps164
  go_wp2_with (go_at_call 114; (with_reducible refine HN.out.mono ?_); rintro e w1 ⟨rfl, hx, hb1⟩; dsimp only)
  have HX := Lib.hid hx
  have HB1 := Lib.hid hb1
  clear hx hb1
  go_wp2_with (go_at_call 122; (with_reducible refine (HBK.out _ HX.out).mono ?_); rintro e w2 ⟨rfl, hy, hb2⟩; dsimp only)
  have HY := Lib.hid hy
  have HB2 := Lib.hid (HB1.out.trans hb2)
  clear hy hb2
  go_wp2
  go_ret
  exact ⟨rfl, HY.out, HB2.out⟩
set_option maxHeartbeats 4000000 in
set_option maxRecDepth 100000 in
theorem run_ws (B lb pos start P : Nat) (s : ByteArray) (rs : List Nat) (its : List LI) (w : World) (h : LY B lb s pos start rs its w) (hs : s.size ≤ 2147483647) (hp2 : pos ≤ s.size) (hT : TabsL B w) (hP : skipW s pos = P) :
    Calls Tryz.prog 130 #[.pointer (some ⟨lb, 0, none⟩), .string ⟨#[32, 12, 9]⟩] w (YPost B lb s P start rs its (.returned (.tuple #[])) w) := by
  unfold YPost
  have HH := Lib.hid h
  have HP := Lib.hid hP
  clear h hP
  go_enter Tryz.func130, Tryz.ntmps130
  go_wp2
  go_loopg [6] (s.size - pos + 1) (fun g v wr => ∃ p, Hid (LY B lb s p start rs its wr) ∧ Hid (skipW s p = P) ∧ p ≤ s.size ∧ Hid (Below B w wr) ∧ g = s.size - p + 1)
  case atStart => exact ⟨pos, HH, HP, hp2, Lib.hid (Below.refl _ _), rfl⟩
  case round =>
    obtain ⟨p, HY, HW, hpp, HB, rfl⟩ := hrel
    have hTr := hT.below HB.out
    by_cases hlt : p < s.size
    · obtain ⟨R, hR⟩ : ∃ R, rAt s p = R := ⟨_, rfl⟩
      obtain ⟨K, hK⟩ : ∃ K, kAt s p = K := ⟨_, rfl⟩
      have hok := rAt_ok s p
      have hk := kAt_pos s p hlt
      have hst := HW.out
      rw [skipW, dif_pos hlt, hR, hK] at hst
      rw [hR] at hok
      rw [hK] at hk
      have HN := Lib.hid (nextY_at B lb p start s rs its _ HY.out hs hlt hTr R K hR hK)
      cases hw : wsR R with
      | true =>
        rw [hw, if_pos rfl] at hst
        have HZ := Lib.hid (fun w => z_isWs R w hok true hw)
        have HST := Lib.hid hst
        clear hst hok hR hK hw hTr
        go_wp2_with (go_at_call 114; (with_reducible refine HN.out.mono ?_); rintro e w1 ⟨rfl, hx, hb1⟩; dsimp only)
        have HX := Lib.hid hx
        have HB1 := Lib.hid (HB.out.trans hb1)
        clear hx hb1
        go_wp2_with (go_at_call 126; (with_reducible refine (HZ.out _).mono ?_); rintro e w2 ⟨rfl, hb2⟩; dsimp only)
        have HB2 : Hid (Below B w w2) := Lib.hid (HB1.out.trans (hb2.mono (Nat.le_trans HX.out.lo (Nat.le_of_lt HX.out.lt))))
        have HY2 : Hid (LY B lb s (p + K) start rs its w2) := Lib.hid ⟨K, HX.out.below hb2⟩
        clear hb2
        go_wp2
        go_roundg (s.size - (p + K) + 1)
        case measure => omega
        case rel => exact ⟨p + K, HY2, HST, by omega, HB2, rfl⟩
      | false =>
        rw [hw, if_neg (by decide)] at hst
        have HZ := Lib.hid (fun w => z_isWs R w hok false hw)
        subst hst
        have HBK := Lib.hid (fun w' (h : LX B lb s (p + K) start K rs its w') => backupY B lb p K start s rs its w' h (by omega))
        clear hok hR hK hw hTr
        go_wp2_with (go_at_call 114; (with_reducible refine HN.out.mono ?_); rintro e w1 ⟨rfl, hx, hb1⟩; dsimp only)
        have HX := Lib.hid hx
        have HB1 := Lib.hid (HB.out.trans hb1)
        clear hx hb1
        go_wp2_with (go_at_call 126; (with_reducible refine (HZ.out _).mono ?_); rintro e w2 ⟨rfl, hb2⟩; dsimp only)
        have HB2 : Hid (Below B w w2) := Lib.hid (HB1.out.trans (hb2.mono (Nat.le_trans HX.out.lo (Nat.le_of_lt HX.out.lt))))
        have HX2 := Lib.hid (HX.out.below hb2)
        clear hb2
        go_wp2_with (go_at_call 122; (with_reducible refine (HBK.out _ HX2.out).mono ?_); rintro e w3 ⟨rfl, hy, hb3⟩; dsimp only)
        have HY := Lib.hid hy
        have HB3 := Lib.hid (HB2.out.trans hb3)
        clear hy hb3
        go_wp2
        go_end0
        exact ⟨rfl, HY.out, HB3.out⟩
    · have hst := HW.out
      rw [skipW, dif_neg hlt] at hst
      subst hst
      have HN := Lib.hid (nextY_end B lb p start s rs its _ HY.out hs hlt hpp)
      have HBK := Lib.hid (fun w' (h : LX B lb s (p + 0) start 0 rs its w') => backupY B lb p 0 start s rs its w' h (by omega))
      have HZ := Lib.hid (fun w => zc_eof ⟨#[32, 12, 9]⟩ w)
      clear hTr
      go_wp2_with (go_at_call 114; (with_reducible refine HN.out.mono ?_); rintro e w1 ⟨rfl, hx, hb1⟩; dsimp only)
      have HX := Lib.hid hx
      have HB1 := Lib.hid (HB.out.trans hb1)
      clear hx hb1
      go_wp2_with (go_at_call 126; (with_reducible refine (HZ.out _).mono ?_); rintro e w2 ⟨rfl, rfl⟩; dsimp only)
      go_wp2_with (go_at_call 122; (with_reducible refine (HBK.out _ HX.out).mono ?_); rintro e w3 ⟨rfl, hy, hb3⟩; dsimp only)
      have HY := Lib.hid hy
      have HB3 := Lib.hid (HB1.out.trans hb3)
      clear hy hb3
      go_wp2
      go_end0
      exact ⟨rfl, HY.out, HB3.out⟩
end Go.Proofs.YtackciefmdiphaaGreatDoor
