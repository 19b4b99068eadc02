/- laws.itemProps: the keys and values among items. -/
import Derived.Test.YtackciefmdiphaaGreatDoorItems
set_option linter.unusedVariables false
namespace Go.Proofs.YtackciefmdiphaaGreatDoor
open Go.RowKit Plain Go.Maps

theorem infoPr : (Tryz.prog.info? 31).map (fun i => (i.zero, i.size, i.bytes)) = some (some (.agg #[.string ⟨#[]⟩, .string ⟨#[]⟩, .string ⟨#[]⟩, .slice none 0 0]), 4, 72) := by kernel_rfl
def propC (p : ByteArray × ByteArray) : List Value := [.string p.1, .string p.2, .string ⟨#[]⟩, .slice none 0 0]
def propsC (l : List (ByteArray × ByteArray)) : List Value := (l.map propC).flatten
/-- the text of an item that is a value and stands first -/
def valN : List LI → ByteArray
  | [] => ⟨#[]⟩
  | y :: _ => if y.kind = 3 then y.text else ⟨#[]⟩
/-- none: an error is among the items -/
def ipL : List LI → Option (List (ByteArray × ByteArray))
  | [] => some []
  | x :: r => if x.kind = 0 then none else if x.kind = 2 then (ipL r).map ((x.text, valN r) :: ·) else ipL r
theorem cell_four_new (w : World) (a b c d : Value) (t : TypeId) : ∀ j u, ([a, b, c, d] : List Value)[j]? = some u → (w.alloc (.cells #[a, b, c, d] t)).cell? ((⟨w.heap.size, 0, none⟩ : Addr).add j) = some u := by
  intro j u hu
  rw [add_at, Nat.zero_add, World.cell?_alloc_new]
  simpa using hu
def IpPost (o : Option (List (ByteArray × ByteArray))) (w : World) (e : Ending) (w' : World) : Prop :=
  Below w.heap.size w w' ∧ match o with
  | none => e = .returned (.tuple #[.slice none 0 0, .bool false])
  | some l => ∃ v, e = .returned (.tuple #[v, .bool true]) ∧ w'.ownsRow w.heap.size 31 4 v l.length (propsC l)
theorem ipL_len : ∀ (l : List LI) (ps : List (ByteArray × ByteArray)), ipL l = some ps → ps.length ≤ l.length := by
  intro l
  induction l with
  | nil => intro ps h; injection h with h; subst h; exact Nat.le_refl _
  | cons x r ih =>
    intro ps h
    unfold ipL at h
    split at h
    · cases h
    · split at h
      · obtain ⟨q, hq, rfl⟩ := Option.map_eq_some_iff.1 h
        have := ih q hq
        simp
        omega
      · have := ih ps h
        simp
        omega
set_option maxHeartbeats 8000000 in
set_option maxRecDepth 100000 in
theorem itemProps_any (L : List LI) (B g cap nL : Nat) (w : World) (h : w.ownsRow B 46 3 (.slice (some ⟨g, 0, none⟩) nL cap) nL (itemsC L)) (hnL : L.length = nL) (hlen2 : nL ≤ 10000000) (o : Option (List (ByteArray × ByteArray))) (ho : ipL L = o) :
    Calls Tryz.prog 24 #[.slice (some ⟨g, 0, none⟩) nL cap] w (IpPost o w) := by
  obtain ⟨i0, hi, hz0, hz1, hz2⟩ := info_parts infoPr
  have HROW := Lib.hid h
  have HNL := Lib.hid hnL
  have HO := Lib.hid ho
  have HSL := Lib.hid (show g < w.heap.size from (row_lt h rfl).2)
  clear h hnL ho
  go_enter Tryz.func24, Tryz.ntmps24
  go_wp2
  go_loopg [4, 10] nL (fun g' v4 v10 wr => ∃ (i : Nat) (acc : List (ByteArray × ByteArray)), v10 = .int .i64 (i : Int) ∧ i ≤ nL ∧ g' = nL - i ∧ acc.length ≤ i ∧ Hid ((ipL (L.drop i)).map (acc ++ ·) = o) ∧ Hid (wr.ownsRow w.heap.size 31 4 v4 acc.length (propsC acc)) ∧ Hid (Below w.heap.size w wr))
  case atStart => exact ⟨0, [], rfl, Nat.zero_le _, rfl, Nat.le_refl _, Lib.hid (by rw [← HO.out]; simp), Lib.hid ⟨by simp [propsC], .inl ⟨rfl, rfl⟩⟩, Lib.hid (Below.refl _ _)⟩
  case round =>
    obtain ⟨i, acc, rfl, hin, rfl, hacc, HLAW, HR, HB⟩ := hrel
    by_cases hlt : i < nL
    · have hiz : (i : Int) < (nL : Int) := by omega
      have hil : i < L.length := by have := HNL.out; omega
      obtain ⟨x, hx⟩ : ∃ x, L[i]? = some x := ⟨_, List.getElem?_eq_getElem hil⟩
      have hdr : L.drop i = x :: L.drop (i + 1) := by
        rw [List.drop_eq_getElem_cons hil]
        rw [List.getElem?_eq_getElem hil] at hx
        rw [Option.some.inj hx]
      have hrw := row_keep HROW.out (fun g hg => HB.out.block g (row_lt HROW.out hg).2)
      have x0 : wr.cell? ⟨g, i * 3, none⟩ = some (.int .i64 (x.kind : Int)) := (hrw.cellAt (i * 3) (by omega)).trans (by rw [Nat.mul_comm]; exact (itemsC_at L i x hx).1)
      have x1 : wr.cell? ⟨g, i * 3 + 1, none⟩ = some (.int .i64 (x.pos : Int)) := (hrw.cellAt (i * 3 + 1) (by omega)).trans (by rw [Nat.mul_comm]; exact (itemsC_at L i x hx).2.1)
      have x2 : wr.cell? ⟨g, i * 3 + 2, none⟩ = some (.string x.text) := (hrw.cellAt (i * 3 + 2) (by omega)).trans (by rw [Nat.mul_comm]; exact (itemsC_at L i x hx).2.2)
      have HRW := Lib.hid hrw
      have hlaw := HLAW.out
      rw [hdr] at hlaw
      unfold ipL at hlaw
      obtain ⟨K, hK⟩ : ∃ K : Int, (x.kind : Int) = K := ⟨_, rfl⟩
      obtain ⟨P, hP⟩ : ∃ P : Int, (x.pos : Int) = P := ⟨_, rfl⟩
      obtain ⟨T, hTx⟩ : ∃ T, x.text = T := ⟨_, rfl⟩
      rw [hK] at x0
      rw [hP] at x1
      rw [hTx] at x2
      rw [hTx] at hlaw
      have HBs := HB.out.size
      clear hrw hx
      by_cases hk0 : x.kind = 0
      · obtain rfl : K = 0 := by omega
        rw [if_pos hk0] at hlaw
        have HL0 := Lib.hid hlaw
        clear hlaw hK hP hTx hdr
        go_wp2
        go_ret2
        have this : none = o := HL0.out
        subst this
        unfold IpPost
        exact ⟨HB.out.alloc HB.out.size _, rfl⟩
      · rw [if_neg hk0] at hlaw
        by_cases hk2 : x.kind = 2
        · obtain rfl : K = 2 := by omega
          rw [if_pos hk2] at hlaw
          by_cases hl1 : i + 1 < nL
          · have hl1z : (i : Int) + 1 < (nL : Int) := by omega
            have hil1 : i + 1 < L.length := by have := HNL.out; omega
            obtain ⟨y, hy⟩ : ∃ y, L[i + 1]? = some y := ⟨_, List.getElem?_eq_getElem hil1⟩
            have hdr1 : L.drop (i + 1) = y :: L.drop (i + 1 + 1) := by
              rw [List.drop_eq_getElem_cons hil1]
              rw [List.getElem?_eq_getElem hil1] at hy
              rw [Option.some.inj hy]
            have y0 : wr.cell? ⟨g, (i + 1) * 3, none⟩ = some (.int .i64 (y.kind : Int)) := (HRW.out.cellAt ((i + 1) * 3) (by omega)).trans (by rw [Nat.mul_comm]; exact (itemsC_at L (i + 1) y hy).1)
            have y2 : wr.cell? ⟨g, (i + 1) * 3 + 2, none⟩ = some (.string y.text) := (HRW.out.cellAt ((i + 1) * 3 + 2) (by omega)).trans (by rw [Nat.mul_comm]; exact (itemsC_at L (i + 1) y hy).2.2)
            obtain ⟨KY, hKY⟩ : ∃ K : Int, (y.kind : Int) = K := ⟨_, rfl⟩
            obtain ⟨R, hRy⟩ : ∃ T, y.text = T := ⟨_, rfl⟩
            rw [hKY] at y0
            rw [hRy] at y2
            have y0a : ∀ a b : Obj, ((wr.alloc a).alloc b).cell? ⟨g, (i + 1) * 3, none⟩ = some (.int .i64 KY) := fun a b => ((((Below.refl wr.heap.size wr).alloc (Nat.le_refl _) a).alloc (by simp) b).cell (Lib.lt_of_cell y0)).trans y0
            have y2a : ∀ a b : Obj, ((wr.alloc a).alloc b).cell? ⟨g, (i + 1) * 3 + 2, none⟩ = some (.string R) := fun a b => ((((Below.refl wr.heap.size wr).alloc (Nat.le_refl _) a).alloc (by simp) b).cell (Lib.lt_of_cell y2)).trans y2
            clear y0 y2
            by_cases hk3 : y.kind = 3
            · obtain rfl : KY = 3 := by omega
              have HL2 : Hid ((ipL (L.drop (i + 1))).map ((acc ++ [(T, R)]) ++ ·) = o) := Lib.hid (by
                rw [← hlaw, show valN (L.drop (i + 1)) = R by rw [hdr1]; show (if y.kind = 3 then y.text else ⟨#[]⟩) = R; rw [if_pos hk3, hRy]]
                simp [Function.comp_def])
              clear hlaw hK hP hTx hdr hdr1 hy hKY hRy
              go_wp2_with (at_builtin; refine wpList_append_own_at _ rfl _ _ 27 rfl w.heap.size 31 i0 (.agg #[.string ⟨#[]⟩, .string ⟨#[]⟩, .string ⟨#[]⟩, .slice none 0 0]) 4 72 Tryz.underlying27 hi hz0 hz1 hz2 rfl (by decide) u4 acc.length (propsC acc) rfl (((HR.out.alloc _).alloc _).alloc _) ⟨wr.heap.size + 1 + 1, 0, none⟩ 1 1 [.string T, .string R, .string ⟨#[]⟩, .slice none 0 0] rfl rfl (by have := cell_four_new ((wr.alloc (.cells #[.int .i64 2, .int .i64 P, .string T] 46)).alloc (.cells #[.string T, .string R, .string ⟨#[]⟩, .slice none 0 0] 31)) (.string T) (.string R) (.string ⟨#[]⟩) (.slice none 0 0) 31; simpa using this) (by intro u hu; simp at hu; rcases hu with rfl | rfl | rfl | rfl <;> rfl) (by unfold maxLen; omega) (by omega) (by simp; omega) ?_; intro v' w6 hown6 hgr6 _ hsh6; have HO6 := Lib.hid hown6; have HG6 := Lib.hid hgr6; clear hown6 hgr6 hsh6)
              have HR2 : Hid (w6.ownsRow w.heap.size 31 4 v' (acc ++ [(T, R)]).length (propsC (acc ++ [(T, R)]))) := Lib.hid (by rw [show propsC (acc ++ [(T, R)]) = propsC acc ++ [.string T, .string R, .string ⟨#[]⟩, .slice none 0 0] by simp [propsC, propC], show (acc ++ [(T, R)]).length = acc.length + 1 by simp]; exact HO6.out)
              have HB2 : Hid (Below w.heap.size w w6) := Lib.hid ((((HB.out.alloc HB.out.size _).alloc (by simp; omega) _).alloc (by simp; omega) _).grown HG6.out (by simp; omega) (fun g hg => (row_lt HR.out hg).1))
              go_roundg (nL - (i + 1))
              case measure => omega
              case rel => exact ⟨i + 1, acc ++ [(T, R)], by go_num, by omega, rfl, by simp; omega, HL2, HR2, HB2⟩
            · have hKc : (KY == (3 : Int)) = false := by rw [beq_eq_false_iff_ne]; omega
              have HL2 : Hid ((ipL (L.drop (i + 1))).map ((acc ++ [(T, (⟨#[]⟩ : ByteArray))]) ++ ·) = o) := Lib.hid (by
                rw [← hlaw, show valN (L.drop (i + 1)) = ⟨#[]⟩ by rw [hdr1]; show (if y.kind = 3 then y.text else ⟨#[]⟩) = ⟨#[]⟩; rw [if_neg hk3]]
                simp [Function.comp_def])
              clear hlaw hK hP hTx hdr hdr1 hy hKY hRy
              go_wp2_with (at_builtin; refine wpList_append_own_at _ rfl _ _ 27 rfl w.heap.size 31 i0 (.agg #[.string ⟨#[]⟩, .string ⟨#[]⟩, .string ⟨#[]⟩, .slice none 0 0]) 4 72 Tryz.underlying27 hi hz0 hz1 hz2 rfl (by decide) u4 acc.length (propsC acc) rfl (((HR.out.alloc _).alloc _).alloc _) ⟨wr.heap.size + 1 + 1, 0, none⟩ 1 1 [.string T, .string ⟨#[]⟩, .string ⟨#[]⟩, .slice none 0 0] rfl rfl (by have := cell_four_new ((wr.alloc (.cells #[.int .i64 2, .int .i64 P, .string T] 46)).alloc (.cells #[.string T, .string ⟨#[]⟩, .string ⟨#[]⟩, .slice none 0 0] 31)) (.string T) (.string ⟨#[]⟩) (.string ⟨#[]⟩) (.slice none 0 0) 31; simpa using this) (by intro u hu; simp at hu; rcases hu with rfl | rfl | rfl | rfl <;> rfl) (by unfold maxLen; omega) (by omega) (by simp; omega) ?_; intro v' w6 hown6 hgr6 _ hsh6; have HO6 := Lib.hid hown6; have HG6 := Lib.hid hgr6; clear hown6 hgr6 hsh6)
              have HR2 : Hid (w6.ownsRow w.heap.size 31 4 v' (acc ++ [(T, (⟨#[]⟩ : ByteArray))]).length (propsC (acc ++ [(T, (⟨#[]⟩ : ByteArray))]))) := Lib.hid (by rw [show propsC (acc ++ [(T, (⟨#[]⟩ : ByteArray))]) = propsC acc ++ [.string T, .string ⟨#[]⟩, .string ⟨#[]⟩, .slice none 0 0] by simp [propsC, propC], show (acc ++ [(T, (⟨#[]⟩ : ByteArray))]).length = acc.length + 1 by simp]; exact HO6.out)
              have HB2 : Hid (Below w.heap.size w w6) := Lib.hid ((((HB.out.alloc HB.out.size _).alloc (by simp; omega) _).alloc (by simp; omega) _).grown HG6.out (by simp; omega) (fun g hg => (row_lt HR.out hg).1))
              go_roundg (nL - (i + 1))
              case measure => omega
              case rel => exact ⟨i + 1, acc ++ [(T, (⟨#[]⟩ : ByteArray))], by go_num, by omega, rfl, by simp; omega, HL2, HR2, HB2⟩
          · have hl1z : ¬ (i : Int) + 1 < (nL : Int) := by omega
            have HL2 : Hid ((ipL (L.drop (i + 1))).map ((acc ++ [(T, (⟨#[]⟩ : ByteArray))]) ++ ·) = o) := Lib.hid (by
              rw [← hlaw, show valN (L.drop (i + 1)) = ⟨#[]⟩ by rw [List.drop_eq_nil_of_le (by have := HNL.out; omega)]; rfl]
              simp [Function.comp_def])
            clear hlaw hK hP hTx hdr
            go_wp2_with (at_builtin; refine wpList_append_own_at _ rfl _ _ 27 rfl w.heap.size 31 i0 (.agg #[.string ⟨#[]⟩, .string ⟨#[]⟩, .string ⟨#[]⟩, .slice none 0 0]) 4 72 Tryz.underlying27 hi hz0 hz1 hz2 rfl (by decide) u4 acc.length (propsC acc) rfl (((HR.out.alloc _).alloc _).alloc _) ⟨wr.heap.size + 1 + 1, 0, none⟩ 1 1 [.string T, .string ⟨#[]⟩, .string ⟨#[]⟩, .slice none 0 0] rfl rfl (by have := cell_four_new ((wr.alloc (.cells #[.int .i64 2, .int .i64 P, .string T] 46)).alloc (.cells #[.string T, .string ⟨#[]⟩, .string ⟨#[]⟩, .slice none 0 0] 31)) (.string T) (.string ⟨#[]⟩) (.string ⟨#[]⟩) (.slice none 0 0) 31; simpa using this) (by intro u hu; simp at hu; rcases hu with rfl | rfl | rfl | rfl <;> rfl) (by unfold maxLen; omega) (by omega) (by simp; omega) ?_; intro v' w6 hown6 hgr6 _ hsh6; have HO6 := Lib.hid hown6; have HG6 := Lib.hid hgr6; clear hown6 hgr6 hsh6)
            have HR2 : Hid (w6.ownsRow w.heap.size 31 4 v' (acc ++ [(T, (⟨#[]⟩ : ByteArray))]).length (propsC (acc ++ [(T, (⟨#[]⟩ : ByteArray))]))) := Lib.hid (by rw [show propsC (acc ++ [(T, (⟨#[]⟩ : ByteArray))]) = propsC acc ++ [.string T, .string ⟨#[]⟩, .string ⟨#[]⟩, .slice none 0 0] by simp [propsC, propC], show (acc ++ [(T, (⟨#[]⟩ : ByteArray))]).length = acc.length + 1 by simp]; exact HO6.out)
            have HB2 : Hid (Below w.heap.size w w6) := Lib.hid ((((HB.out.alloc HB.out.size _).alloc (by simp; omega) _).alloc (by simp; omega) _).grown HG6.out (by simp; omega) (fun g hg => (row_lt HR.out hg).1))
            go_roundg (nL - (i + 1))
            case measure => omega
            case rel => exact ⟨i + 1, acc ++ [(T, (⟨#[]⟩ : ByteArray))], by go_num, by omega, rfl, by simp; omega, HL2, HR2, HB2⟩
        · rw [if_neg hk2] at hlaw
          have HL0 := Lib.hid hlaw
          have hKa : (K == (0 : Int)) = false := by rw [beq_eq_false_iff_ne]; omega
          have hKb : (K == (2 : Int)) = false := by rw [beq_eq_false_iff_ne]; omega
          clear hlaw hK hP hTx hdr
          go_wp2
          have HR2 : Hid ((wr.alloc (.cells #[.int .i64 K, .int .i64 P, .string T] 46)).ownsRow w.heap.size 31 4 u4 acc.length (propsC acc)) := Lib.hid (HR.out.alloc _)
          have HB2 : Hid (Below w.heap.size w (wr.alloc (.cells #[.int .i64 K, .int .i64 P, .string T] 46))) := Lib.hid (HB.out.alloc HB.out.size _)
          go_roundg (nL - (i + 1))
          case measure => omega
          case rel => exact ⟨i + 1, acc, by go_num, by omega, rfl, by omega, HL0, HR2, HB2⟩
    · have hiz : ¬ (i : Int) < (nL : Int) := by omega
      obtain rfl : i = nL := by omega
      have hlaw := HLAW.out
      rw [List.drop_eq_nil_of_le (Nat.le_of_eq HNL.out)] at hlaw
      have HL0 : Hid (some acc = o) := Lib.hid (by rw [← hlaw]; simp [ipL])
      clear hlaw
      go_wp2
      go_ret2
      have := HL0.out
      subst this
      unfold IpPost
      exact ⟨HB.out, u4, rfl, HR.out⟩
end Go.Proofs.YtackciefmdiphaaGreatDoor
