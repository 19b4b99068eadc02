/- Loading a text of ISO-8859-1 without expansion. -/
import Derived.Test.YtgmhigjhooihdaaGreatDoorZzIt
import Derived.OwnWalk
import Derived.Deep.LoopGhost
set_option linter.unusedVariables false
namespace Go.Proofs.YtgmhigjhooihdaaGreatDoor
open Go.RowKit Plain Go.Maps

def byN (s : ByteArray) : List Nat := s.data.toList.map (·.toNat)
/-- the text whose characters are bytes -/
def latT (s : ByteArray) : ByteArray := textOf (byN s)
theorem byN_len (s : ByteArray) : (byN s).length = s.size := by unfold byN; rw [List.length_map, ← Lib.size_eq]
theorem byN_lt (s : ByteArray) : ∀ x ∈ byN s, x < 256 := fun x hx => by
  obtain ⟨b, _, rfl⟩ := List.mem_map.1 hx
  exact b.toNat_lt
theorem latT_size (s : ByteArray) : (latT s).size ≤ 4 * s.size := by
  have := textOf_size (byN s)
  rw [byN_len] at this
  exact this
theorem numsB_byN (s : ByteArray) (i : Nat) (x : Nat) (h : (byN s)[i]? = some x) : (numsB s).getD i 0 = (x : Int) := by
  unfold byN at h
  unfold numsB
  rw [List.getElem?_map] at h
  rw [List.getD, List.getElem?_map]
  cases hb : s.data.toList[i]? with
  | none => rw [hb] at h; cases h
  | some b =>
    rw [hb] at h
    injection h with h
    subst h
    rfl
theorem infoI32 : (Tryz.prog.info? 21).map (fun i => (i.zero, i.size, i.bytes)) = some (some (.int .i32 0), 1, 4) := by kernel_rfl
theorem made0 (n : Nat) : (List.range n).map (fun x => (Value.int .i32 0).cells[x % (Value.int .i32 0).cells.size]!) = List.replicate n (.int .i32 0) :=
  List.eq_replicate_iff.2 ⟨by simp, fun b hb => by
    obtain ⟨x, _, rfl⟩ := List.mem_map.1 hb
    show (#[Value.int .i32 0] : Array Value)[x % 1]! = _
    rw [Nat.mod_one]
    rfl⟩
theorem rowR_made {w : World} {B n g c : Nat} (h : w.ownsRow B 21 1 (.slice (some ⟨g, 0, none⟩) n c) n (List.replicate n (.int .i32 0))) : RowR g (List.replicate n 0) w := by
  rcases h.2 with ⟨hv, _⟩ | ⟨g', cap, cur, hv, q1, q2, q3, q4, q5, q6⟩
  · cases hv
  · injection hv with hv1 hv2 hv3
    injection hv1 with hv1
    injection hv1 with hv1
    subst hv1
    refine ⟨(cur.toList.drop n).toArray, ?_⟩
    rw [q2]
    congr 2
    apply Array.toList_inj.1
    have h6 : cur.toList.take n = List.replicate n (.int .i32 0) := by simpa using q6
    simp only [Array.toList_append]
    conv => lhs; rw [← List.take_append_drop n cur.toList]
    rw [h6, List.map_replicate]
    rfl
set_option maxHeartbeats 2000000 in
set_option maxRecDepth 100000 in
theorem convertL_any (b n c : Nat) (s : ByteArray) (w : World) (hn : s.size = n) (hb : n ≤ 100000) (hc : ∀ i, i < n → w.cell? ⟨b, i, none⟩ = some (.int .u8 ((numsB s).getD i 0))) :
    Calls Tryz.prog 87 #[.slice (some ⟨b, 0, none⟩) n c, .int .u64 2] w fun e w' => e = .returned (.string (latT s)) ∧ Below w.heap.size w w' := by
  obtain ⟨i0, hi, hz0, hz1, hz2⟩ := info_parts infoI32
  have HC := Lib.hid hc
  have HN := Lib.hid hn
  clear hc hn
  go_enter Tryz.func87, Tryz.ntmps87
  go_wp2_with (first
    | (at_make; refine wpList_make_full _ rfl _ _ 133 rfl w.heap.size 21 i0 (.int .i32 0) 1 Tryz.underlying133 hi hz0 hz1 .i64 .i64 _ _ n rfl rfl rfl rfl (by rw [hz2]; omega) (by unfold maxLen; omega) (Nat.le_refl _) ?_; intro w1 how hgw; have HOW := Lib.hid how; have HGW := Lib.hid hgw; clear how hgw))
  have HB1 : Hid (Below w.heap.size w w1) := Lib.hid ((Below.refl _ w).grown HGW.out (Nat.le_refl _) (fun g hg => by cases hg))
  have HR1 : Hid (RowR w.heap.size (List.replicate n 0) w1) := Lib.hid (rowR_made (c := n) (B := w.heap.size) (by have h := HOW.out; simp [madeCells] at h; rw [made0] at h; exact h))
  go_loopg [22] n (fun gh iv wr => ∃ i : Nat, iv = .int .i64 (i : Int) ∧ i ≤ n ∧ gh = n - i ∧ Hid (RowR w.heap.size ((byN s).take i ++ List.replicate (n - i) 0) wr) ∧ Hid (Below w.heap.size w wr))
  case atStart => exact ⟨0, rfl, Nat.zero_le _, rfl, Lib.hid (by simpa using HR1.out), HB1⟩
  case round =>
    obtain ⟨i, rfl, hin, rfl, HR, HB⟩ := hrel
    by_cases hlt : i < n
    · have hiz : (i : Int) < (n : Int) := by omega
      have hlen := byN_len s
      obtain ⟨x, hx⟩ : ∃ x, (byN s)[i]? = some x := ⟨_, List.getElem?_eq_getElem (by have := HN.out; omega)⟩
      have hxl := byN_lt s x (List.mem_of_getElem? hx)
      have x0 : wr.cell? ⟨b, i, none⟩ = some (.int .u8 (x : Int)) := by
        have := HC.out i hlt
        rw [numsB_byN s i x hx] at this
        exact (HB.out.cell (Lib.lt_of_cell this)).trans this
      have hrl : ((byN s).take i ++ List.replicate (n - i) 0).length = n := by
        rw [List.length_append, List.length_take, List.length_replicate]
        have := HN.out
        omega
      have r0 := HR.out.cell (k := i) (x := 0) (by
        rw [List.getElem?_append_right (by rw [List.length_take]; omega), List.length_take]
        rw [List.getElem?_replicate, if_pos (by have := HN.out; omega)])
      have r1 := HR.out.frozen i
      have r2 := HR.out.store (k := i) (v := x) (by rw [hrl]; exact hlt)
      have hset : ((byN s).take i ++ List.replicate (n - i) 0).set i x = (byN s).take (i + 1) ++ List.replicate (n - (i + 1)) 0 := by
        have hti : ((byN s).take i).length = i := by rw [List.length_take]; have := HN.out; omega
        rw [List.set_append_right _ _ (by omega), hti, Nat.sub_self, List.take_add_one, hx]
        rw [show n - i = (n - (i + 1)) + 1 by omega, List.replicate_succ]
        simp
      rw [hset] at r2
      have HR2 := Lib.hid r2
      have HB2 : Hid (Below w.heap.size w (wr.setCell ⟨w.heap.size, i, none⟩ (.int .i32 (x : Int)))) := Lib.hid (HB.out.setCell (p := ⟨w.heap.size, i, none⟩) (Nat.le_refl _) _)
      have hxz : (x : Int) < 256 := by omega
      clear hx hrl r2 hset hlen
      go_wp2
      go_roundg (n - (i + 1))
      case measure => omega
      case rel => exact ⟨i + 1, by go_num, by omega, rfl, HR2, HB2⟩
    · have hiz : ¬ (i : Int) < (n : Int) := by omega
      obtain rfl : i = n := by omega
      have hr := HR.out
      rw [Nat.sub_self, List.replicate_zero, List.append_nil, List.take_of_length_le (by rw [byN_len]; exact Nat.le_of_eq HN.out)] at hr
      have hcv := conv_text (P := Tryz.prog) Tryz.underlying133 Tryz.underlying21 Tryz.underlying9 hr i i (by rw [byN_len]; exact Nat.le_of_eq HN.out.symm)
      rw [List.take_of_length_le (by rw [byN_len]; exact Nat.le_of_eq HN.out)] at hcv
      clear hr
      go_wp2
      go_ret
      exact ⟨rfl, HB.out⟩
end Go.Proofs.YtgmhigjhooihdaaGreatDoor
