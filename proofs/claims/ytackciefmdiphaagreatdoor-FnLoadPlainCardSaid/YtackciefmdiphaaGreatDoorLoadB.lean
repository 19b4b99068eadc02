/- The properties' loader: bytes to text, a mark at the front struck. -/
import Derived.Test.YtackciefmdiphaaGreatDoorProps
import Derived.Test.YtackciefmdiphaaGreatDoorParBd
import Derived.Test.YtackciefmdiphaaGreatDoorTrim
import Derived.Test.YtackciefmdiphaaGreatDoorParse2
import Derived.Laws.BytesArg
import Derived.Lib.ConvBytes
set_option linter.unusedVariables false
namespace Go.Proofs.YtackciefmdiphaaGreatDoor
open Go.RowKit Plain Go.Maps

/-- a text's bytes as numbers -/
def numsB (s : ByteArray) : List Int := s.data.toList.map fun b => (b.toNat : Int)
theorem numsB_len (s : ByteArray) : (numsB s).length = s.size := by unfold numsB; rw [List.length_map, ← Lib.size_eq]
theorem bytesOf_numsB (s : ByteArray) : Lib.bytesOf (numsB s) = s.data.toList := by
  unfold Lib.bytesOf numsB
  rw [List.map_map]
  conv => rhs; rw [← List.map_id s.data.toList]
  refine List.map_congr_left fun b _ => ?_
  simp
/-- the mark at a text's front -/
def bomB (s : ByteArray) : Bool := Lib.hasPrefix s.data.toList [239, 187, 191]
def bomK (s : ByteArray) : Nat := if bomB s then 3 else 0
/-- a text without the mark -/
def unbom (s : ByteArray) : ByteArray := ⟨(s.data.toList.drop (bomK s)).toArray⟩
theorem bomK_le (s : ByteArray) : bomK s ≤ s.size := by
  unfold bomK
  split
  · rename_i h
    unfold bomB Lib.hasPrefix at h
    have := (List.isPrefixOf_iff_prefix.1 h).length_le
    rw [Lib.size_eq]
    simpa using this
  · exact Nat.zero_le _
theorem unbom_size (s : ByteArray) : (unbom s).size ≤ s.size := by
  rw [Lib.size_eq, Lib.size_eq s]
  unfold unbom
  simp
theorem unbom_no {s : ByteArray} (h : bomB s = false) : unbom s = s := by
  unfold unbom bomK
  rw [h]
  simp
theorem strOfNums_drop (s : ByteArray) (k : Nat) : strOfNums ((numsB s).drop k) = ⟨(s.data.toList.drop k).toArray⟩ := by
  have e : ((numsB s).drop k).map (fun n => UInt8.ofNat n.toNat) = s.data.toList.drop k := by
    rw [List.map_drop]
    have := bytesOf_numsB s
    unfold Lib.bytesOf at this
    rw [this]
  unfold strOfNums
  rw [e]
/-- what TrimPrefix hands back -/
theorem trim_bom (s : ByteArray) (b c : Nat) : ∃ o', Lib.trimPrefixV (some ⟨b, 0, none⟩) s.size c (numsB s) [239, 187, 191] = .slice (some ⟨b, o', none⟩) (s.size - bomK s) (c - bomK s) ∧ (bomK s < s.size → s.size ≤ c → o' = bomK s) := by
  unfold Lib.trimPrefixV Lib.bytesTrimPrefix
  have e : Lib.hasPrefix (Lib.bytesOf (numsB s)) (Lib.bytesOf [239, 187, 191]) = bomB s := by rw [bytesOf_numsB]; rfl
  dsimp only
  rw [e]
  unfold bomK
  cases hb : bomB s with
  | false => exact ⟨0, rfl, fun _ _ => rfl⟩
  | true =>
    simp only [if_true]
    unfold Lib.sliceFrom
    by_cases hc : c = 3
    · refine ⟨0, by simp [hc], fun h1 h2 => by omega⟩
    · refine ⟨3, by simp [hc], fun _ _ => rfl⟩
set_option maxRecDepth 100000 in
/-- bytes of UTF-8 are their text -/
theorem convert_any (b o n c : Nat) (xs : List Int) (enc : Int) (w : World) (hx : xs.length = n) (he : enc = 0 ∨ enc = 1) (hc : ∀ i, i < n → w.cell? ⟨b, o + i, none⟩ = some (.int .u8 (xs.getD i 0))) :
    Calls Tryz.prog 78 #[.slice (some ⟨b, o, none⟩) n c, .int .u64 enc] w fun e w' => e = .returned (.string (strOfNums xs)) ∧ w' = w := by
  have hcv := run_convert_bytes_arg (P := Tryz.prog) w 70 5 Tryz.underlying70 Tryz.underlying5 b o n c xs hx hc 9 Tryz.underlying9
  clear hc hx
  rcases he with rfl | rfl
  · go_enter Tryz.func78, Tryz.ntmps78
    go_wp2
    go_ret
    exact ⟨rfl, rfl⟩
  · go_enter Tryz.func78, Tryz.ntmps78
    go_wp2
    go_ret
    exact ⟨rfl, rfl⟩
/-- what loading gives: nothing and an error, or properties in memory -/
def LdPost (o : Option PSt) (w : World) (e : Ending) (w' : World) : Prop :=
  match o with
  | some p => ∃ pb mb mc n nc DC lv, e = .returned (.tuple #[.pointer (some ⟨pb, 0, none⟩), .nilIface]) ∧ LP w.heap.size pb mb mc n nc p DC lv true w' ∧ Below w.heap.size w w'
  | none => ∃ N : Nat, e = .returned (.tuple #[.pointer none, .iface 194 (.pointer (some ⟨N, 0, none⟩))]) ∧ Below w.heap.size w w'
theorem LP.base {B B' pb mb mc n nc : Nat} {p : PSt} {DC : DataW Value} {lv : Value} {dis : Bool} {w : World} (h : LP B pb mb mc n nc p DC lv dis w) (hb : B' ≤ B) : LP B' pb mb mc n nc p DC lv dis w :=
  ⟨h.blk, h.mp, h.cp, row_base h.row hb, fun k => ⟨(h.cr k).1, fun l hl => by
    obtain ⟨v, v1, v2, v3, v4⟩ := (h.cr k).2 l hl
    exact ⟨v, v1, v2, row_base v3 hb, v4⟩⟩, Nat.le_trans hb h.lo.1, Nat.le_trans hb h.lo.2.1, Nat.le_trans hb h.lo.2.2⟩
set_option maxHeartbeats 2000000 in
set_option maxRecDepth 100000 in
/-- loading without expansion -/
theorem loadBytes_plain (s : ByteArray) (lb b c : Nat) (w : World) (hs : s.size ≤ 100000) (hsc : s.size ≤ c) (hT : Tabs w) (c1 : w.cell? ⟨lb, 1, none⟩ = some (.bool true)) (hc : ∀ i, i < s.size → w.cell? ⟨b, i, none⟩ = some (.int .u8 ((numsB s).getD i 0))) (o : Option PSt) (ho : parL (lexL (unbom s)) [] pst0 = o) :
    Calls Tryz.prog 53 #[.pointer (some ⟨lb, 0, none⟩), .slice (some ⟨b, 0, none⟩) s.size c, .int .u64 1] w (LdPost o w) := by
  have hll := Lib.lt_of_cell c1
  obtain ⟨o', htr, ho'⟩ := trim_bom s b c
  obtain ⟨W, hW⟩ : ∃ W, w.alloc (.cells #[.int .u8 239, .int .u8 187, .int .u8 191] 5) = W := ⟨_, rfl⟩
  have hbW : Below w.heap.size w W := hW ▸ (Below.refl _ w).alloc (Nat.le_refl _) _
  have HTR := Lib.hid (trim_any (some ⟨b, 0, none⟩) (some ⟨w.heap.size, 0, none⟩) s.size c 3 3 (numsB s) [239, 187, 191] W (numsB_len s) rfl hsc (fun h0 => ⟨b, 0, rfl, fun i hi => by
    rw [Nat.zero_add]
    have h1 := hc i hi
    exact (hbW.cell (Lib.lt_of_cell h1)).trans h1⟩) (fun _ => ⟨w.heap.size, 0, rfl, fun i hi => by
    have h9 : W.heap[w.heap.size]? = _ := hW ▸ heap_alloc_new w _
    simp only [World.cell?, h9]
    match i, hi with
    | 0, _ => rfl
    | 1, _ => rfl
    | 2, _ => rfl⟩))
  rw [htr] at HTR
  have HCV := Lib.hid (convert_any b o' (s.size - bomK s) (c - bomK s) ((numsB s).drop (bomK s)) 1 W (by rw [List.length_drop, numsB_len]) (.inr rfl) (fun i hi => by
    have h1 := hc (bomK s + i) (by omega)
    rw [ho' (by omega) hsc]
    rw [(hbW.cell (Lib.lt_of_cell h1)).trans h1]
    simp [List.getD]))
  rw [strOfNums_drop] at HCV
  have HPA := Lib.hid (parse_any (unbom s) W (Nat.le_trans (unbom_size s) hs) (hT.below hbW) o ho)
  have d1 : ∀ y, Below w.heap.size w y → y.cell? ⟨lb, 1, none⟩ = some (.bool true) := fun y hy => (hy.cell hll).trans c1
  have HD1 := Lib.hid d1
  have HBW := Lib.hid hbW
  have hWs : W.heap.size = w.heap.size + 1 := by rw [← hW]; simp
  have HWW := Lib.hid hW
  obtain ⟨n1, hn1⟩ : ∃ n1, s.size - bomK s = n1 := ⟨_, rfl⟩
  obtain ⟨k1, hk1⟩ : ∃ n1, c - bomK s = n1 := ⟨_, rfl⟩
  obtain ⟨n0, hn0⟩ : ∃ n1, s.size = n1 := ⟨_, rfl⟩
  rw [hn1, hk1] at HTR HCV
  rw [hn0] at HTR ⊢
  change Hid (Calls _ _ _ _ fun e w' => e = .returned (.string (unbom s)) ∧ _) at HCV
  obtain ⟨U, hU⟩ : ∃ U, unbom s = U := ⟨_, rfl⟩
  rw [hU] at HCV HPA
  clear hc htr ho' d1 hbW hW hn1 hk1 hn0 hU hT c1
  cases o with
  | none =>
    go_enter Tryz.func53, Tryz.ntmps53
    go_wp2_with (first
      | (go_at_call 76; rw [HWW.out]; (with_reducible refine HTR.out.mono ?_); rintro e w1 ⟨rfl, rfl⟩; dsimp only)
      | (go_at_call 78; (with_reducible refine HCV.out.mono ?_); rintro e w1 ⟨rfl, rfl⟩; dsimp only)
      | (go_at_call 77; (with_reducible refine HPA.out.mono ?_); rintro e w2 ⟨P, N, rfl, hb2⟩; have HB2 := Lib.hid hb2; clear hb2; dsimp only))
    go_ret2
    exact ⟨N, rfl, bthen HBW.out HB2.out⟩
  | some p =>
    go_enter Tryz.func53, Tryz.ntmps53
    go_wp2_with (first
      | (go_at_call 76; rw [HWW.out]; (with_reducible refine HTR.out.mono ?_); rintro e w1 ⟨rfl, rfl⟩; dsimp only)
      | (go_at_call 78; (with_reducible refine HCV.out.mono ?_); rintro e w1 ⟨rfl, rfl⟩; dsimp only)
      | (go_at_call 77; (with_reducible refine HPA.out.mono ?_); rintro e w2 ⟨pb, mb, mc, n, nc, DC, lv, rfl, hpq, hcr, hb2⟩; have HB2 := Lib.hid hb2; have HPQ := Lib.hid hpq; have HCR := Lib.hid hcr; have e1 := HD1.out w2 (bthen HBW.out hb2); obtain ⟨_, _, _, _, f2, _⟩ := seven_cells hpq.blk; clear hb2 hpq hcr; dsimp only))
    go_ret2
    have hsz := HBW.out.size
    exact ⟨pb, mb, mc, n, nc, DC, lv, rfl, (LP.of true HPQ.out HCR.out).base hsz, (bthen HBW.out HB2.out).setCell (p := ⟨pb, 2, none⟩) (Nat.le_trans hsz HPQ.out.lo.1) _⟩
set_option maxRecDepth 100000 in
theorem loadBytesU_plain (s : ByteArray) (lb b c : Nat) (w : World) (hs : s.size ≤ 100000) (hsc : s.size ≤ c) (hT : Tabs w) (c0 : w.cell? ⟨lb, 0, none⟩ = some (.int .u64 1)) (c1 : w.cell? ⟨lb, 1, none⟩ = some (.bool true)) (hc : ∀ i, i < s.size → w.cell? ⟨b, i, none⟩ = some (.int .u8 ((numsB s).getD i 0))) (o : Option PSt) (ho : parL (lexL (unbom s)) [] pst0 = o) :
    Calls Tryz.prog 31 #[.pointer (some ⟨lb, 0, none⟩), .slice (some ⟨b, 0, none⟩) s.size c] w (LdPost o w) := by
  have HLB := Lib.hid (loadBytes_plain s lb b c w hs hsc hT c1 hc o ho)
  obtain ⟨n0, hn0⟩ : ∃ n1, s.size = n1 := ⟨_, rfl⟩
  rw [hn0] at HLB ⊢
  clear hc hT c1 hs hsc hn0 ho
  cases o with
  | none =>
    go_enter Tryz.func31, Tryz.ntmps31
    go_wp2_with (go_at_call 53; (with_reducible refine HLB.out.mono ?_); rintro e w2 ⟨N, rfl, hb2⟩; have HB2 := Lib.hid hb2; clear hb2; dsimp only)
    go_ret2
    exact ⟨N, rfl, HB2.out⟩
  | some p =>
    go_enter Tryz.func31, Tryz.ntmps31
    go_wp2_with (go_at_call 53; (with_reducible refine HLB.out.mono ?_); rintro e w2 ⟨pb, mb, mc, n, nc, DC, lv, rfl, hlp, hb2⟩; have HB2 := Lib.hid hb2; have HLP := Lib.hid hlp; clear hb2 hlp; dsimp only)
    go_ret2
    exact ⟨pb, mb, mc, n, nc, DC, lv, rfl, HLP.out, HB2.out⟩
def LpPost (o : Option PSt) (w : World) (e : Ending) (w' : World) : Prop :=
  Below w.heap.size w w' ∧ match o with
  | none => e = .returned (.tuple #[.slice none 0 0, .bool false])
  | some p => ∃ v, e = .returned (.tuple #[v, .bool true]) ∧ PRow w.heap.size v (p.ks.map (dataOf p (rawOf p.D))) w'
theorem numsB_cell (s : ByteArray) (w : World) (i : Nat) (hi : i < s.size) : (Lib.bytesWorld w 5 s).cell? ⟨w.heap.size, i, none⟩ = some (.int .u8 ((numsB s).getD i 0)) := by
  rw [Lib.bytesWorld_cell _ _ _ _ hi]
  unfold numsB
  have hi' : i < s.data.toList.length := by rw [← Lib.size_eq]; exact hi
  simp only [List.getD, List.getElem?_map, List.getElem?_eq_getElem hi', Option.map_some, Option.getD_some]
set_option maxHeartbeats 2000000 in
set_option maxRecDepth 100000 in
theorem loadProps_plain (s : ByteArray) (w : World) (hs : s.size ≤ 100000) (hT : Tabs w) (o : Option PSt) (ho : parL (lexL (unbom s)) [] pst0 = o) :
    Calls Tryz.prog 13 #[.string s, .int .i64 1, .bool true] w (LpPost o w) := by
  obtain ⟨W1, hW1⟩ : ∃ W, w.alloc (.cells #[.int .u64 1, .bool true, .bool false] 64) = W := ⟨_, rfl⟩
  have hb1 : Below w.heap.size w W1 := hW1 ▸ (Below.refl _ w).alloc (Nat.le_refl _) _
  have hs1 : W1.heap.size = w.heap.size + 1 := by rw [← hW1]; simp
  have hblk : W1.heap[w.heap.size]? = _ := hW1 ▸ heap_alloc_new w _
  obtain ⟨W2, hW2⟩ : ∃ W, Lib.bytesWorld W1 5 s = W := ⟨_, rfl⟩
  have hb2 : Below W1.heap.size W1 W2 := hW2 ▸ ⟨rfl, rfl, rfl, by rw [Lib.bytesWorld_size]; omega, fun j hj => Lib.bytesWorld_at_old W1 5 s j hj⟩
  obtain ⟨cap, hcap⟩ : ∃ c, grownCap W1 s.size 0 5 = c := ⟨_, rfl⟩
  have hcv := Lib.run_convert_string_bytes (P := Tryz.prog) W1 9 70 5 s Tryz.underlying9 Tryz.underlying70 Tryz.underlying5
  rw [hW2, hcap, hs1] at hcv
  have hcell : ∀ i, i < s.size → W2.cell? ⟨w.heap.size + 1, i, none⟩ = some (.int .u8 ((numsB s).getD i 0)) := fun i hi => by
    have := numsB_cell s W1 i hi
    rwa [hW2, hs1] at this
  have hblk2 : W2.heap[w.heap.size]? = _ := (hb2.block _ (by omega)).trans hblk
  have hb02 := bthen hb1 hb2
  have HLB := Lib.hid (loadBytesU_plain s w.heap.size (w.heap.size + 1) cap W2 hs (hcap ▸ grownCap_ge _ _ _ _) (hT.below hb02) (by simp [World.cell?, hblk2]) (by simp [World.cell?, hblk2]) hcell o ho)
  have HB02 := Lib.hid hb02
  have HW1 := Lib.hid hW1
  obtain ⟨n0, hn0⟩ : ∃ n1, s.size = n1 := ⟨_, rfl⟩
  rw [hn0] at hcv HLB
  have HBD : Hid (∀ p, o = some p → PBd 1000000 1000000 p) := Lib.hid (fun p hp => parL_small (unbom s) p (Nat.le_trans (unbom_size s) hs) (hp ▸ ho))
  clear hb1 hblk hb2 hcap hcell hblk2 hb02 hW1 hW2 hn0 hs hT ho hs1
  unfold LpPost
  cases o with
  | none =>
    go_enter Tryz.func13, Tryz.ntmps13
    go_wp2_with (first
      | (rw [HW1.out])
      | (go_at_call 31; (with_reducible refine HLB.out.mono ?_); rintro e w3 ⟨N, rfl, hb3⟩; have HB3 := Lib.hid hb3; clear hb3; dsimp only))
    go_ret2
    exact ⟨bthen HB02.out HB3.out, rfl⟩
  | some p =>
    have hbd := HBD.out p rfl
    go_enter Tryz.func13, Tryz.ntmps13
    go_wp2_with (first
      | (rw [HW1.out])
      | (go_at_call 31; (with_reducible refine HLB.out.mono ?_); rintro e w3 ⟨pb, mb, mc, n, nc, DC, lv, rfl, hlp, hb3⟩; have HB3 := Lib.hid hb3; have HLP := Lib.hid hlp; have HPR := Lib.hid (props_any W2.heap.size pb mb mc (Maps.size p.D) nc p DC lv true (rawOf p.D) w3 ⟨hlp.blk, mp_size hlp.mp, hlp.cp, hlp.row, hlp.cr, hlp.lo⟩ (by have := hbd.dn; omega) (by have := hbd.kn; omega) (fun k hk => by have := hbd.keys k hk; omega) (fun k l hl => by have := hbd.cn k l hl; omega) (fun k hk wr hwr => (getL_any _ pb mb mc n nc p DC lv k wr (hlp.below hwr) (by have := hbd.keys k hk; omega)).mono (by rintro e w' ⟨rfl, rfl⟩; exact ⟨_, rfl, Below.refl _ _⟩))); clear hb3 hlp; dsimp only)
      | (go_at_call 32; (with_reducible refine HPR.out.mono ?_); rintro e w4 ⟨v, rfl, hv, hb4⟩; have HB4 := Lib.hid hb4; have HV := Lib.hid hv; clear hb4 hv; dsimp only))
    go_ret2
    have hb03 := bthen HB02.out HB3.out
    exact ⟨bthen hb03 HB4.out, v, rfl, HV.out.base hb03.size⟩
end Go.Proofs.YtackciefmdiphaaGreatDoor

set_option linter.unusedVariables false
namespace Go.Proofs.YtackciefmdiphaaGreatDoor
open Go.RowKit Plain Go.Maps

set_option maxHeartbeats 2000000 in
set_option maxRecDepth 100000 in
/-- loading without expansion -/
theorem loadBytes_plain0 (s : ByteArray) (lb b c : Nat) (w : World) (hs : s.size ≤ 100000) (hsc : s.size ≤ c) (hT : Tabs w) (c1 : w.cell? ⟨lb, 1, none⟩ = some (.bool true)) (hc : ∀ i, i < s.size → w.cell? ⟨b, i, none⟩ = some (.int .u8 ((numsB s).getD i 0))) (o : Option PSt) (ho : parL (lexL (unbom s)) [] pst0 = o) :
    Calls Tryz.prog 53 #[.pointer (some ⟨lb, 0, none⟩), .slice (some ⟨b, 0, none⟩) s.size c, .int .u64 0] w (LdPost o w) := by
  have hll := Lib.lt_of_cell c1
  obtain ⟨o', htr, ho'⟩ := trim_bom s b c
  obtain ⟨W, hW⟩ : ∃ W, w.alloc (.cells #[.int .u8 239, .int .u8 187, .int .u8 191] 5) = W := ⟨_, rfl⟩
  have hbW : Below w.heap.size w W := hW ▸ (Below.refl _ w).alloc (Nat.le_refl _) _
  have HTR := Lib.hid (trim_any (some ⟨b, 0, none⟩) (some ⟨w.heap.size, 0, none⟩) s.size c 3 3 (numsB s) [239, 187, 191] W (numsB_len s) rfl hsc (fun h0 => ⟨b, 0, rfl, fun i hi => by
    rw [Nat.zero_add]
    have h1 := hc i hi
    exact (hbW.cell (Lib.lt_of_cell h1)).trans h1⟩) (fun _ => ⟨w.heap.size, 0, rfl, fun i hi => by
    have h9 : W.heap[w.heap.size]? = _ := hW ▸ heap_alloc_new w _
    simp only [World.cell?, h9]
    match i, hi with
    | 0, _ => rfl
    | 1, _ => rfl
    | 2, _ => rfl⟩))
  rw [htr] at HTR
  have HCV := Lib.hid (convert_any b o' (s.size - bomK s) (c - bomK s) ((numsB s).drop (bomK s)) 0 W (by rw [List.length_drop, numsB_len]) (.inl rfl) (fun i hi => by
    have h1 := hc (bomK s + i) (by omega)
    rw [ho' (by omega) hsc]
    rw [(hbW.cell (Lib.lt_of_cell h1)).trans h1]
    simp [List.getD]))
  rw [strOfNums_drop] at HCV
  have HPA := Lib.hid (parse_any (unbom s) W (Nat.le_trans (unbom_size s) hs) (hT.below hbW) o ho)
  have d1 : ∀ y, Below w.heap.size w y → y.cell? ⟨lb, 1, none⟩ = some (.bool true) := fun y hy => (hy.cell hll).trans c1
  have HD1 := Lib.hid d1
  have HBW := Lib.hid hbW
  have hWs : W.heap.size = w.heap.size + 1 := by rw [← hW]; simp
  have HWW := Lib.hid hW
  obtain ⟨n1, hn1⟩ : ∃ n1, s.size - bomK s = n1 := ⟨_, rfl⟩
  obtain ⟨k1, hk1⟩ : ∃ n1, c - bomK s = n1 := ⟨_, rfl⟩
  obtain ⟨n0, hn0⟩ : ∃ n1, s.size = n1 := ⟨_, rfl⟩
  rw [hn1, hk1] at HTR HCV
  rw [hn0] at HTR ⊢
  change Hid (Calls _ _ _ _ fun e w' => e = .returned (.string (unbom s)) ∧ _) at HCV
  obtain ⟨U, hU⟩ : ∃ U, unbom s = U := ⟨_, rfl⟩
  rw [hU] at HCV HPA
  clear hc htr ho' d1 hbW hW hn1 hk1 hn0 hU hT c1
  cases o with
  | none =>
    go_enter Tryz.func53, Tryz.ntmps53
    go_wp2_with (first
      | (go_at_call 76; rw [HWW.out]; (with_reducible refine HTR.out.mono ?_); rintro e w1 ⟨rfl, rfl⟩; dsimp only)
      | (go_at_call 78; (with_reducible refine HCV.out.mono ?_); rintro e w1 ⟨rfl, rfl⟩; dsimp only)
      | (go_at_call 77; (with_reducible refine HPA.out.mono ?_); rintro e w2 ⟨P, N, rfl, hb2⟩; have HB2 := Lib.hid hb2; clear hb2; dsimp only))
    go_ret2
    exact ⟨N, rfl, bthen HBW.out HB2.out⟩
  | some p =>
    go_enter Tryz.func53, Tryz.ntmps53
    go_wp2_with (first
      | (go_at_call 76; rw [HWW.out]; (with_reducible refine HTR.out.mono ?_); rintro e w1 ⟨rfl, rfl⟩; dsimp only)
      | (go_at_call 78; (with_reducible refine HCV.out.mono ?_); rintro e w1 ⟨rfl, rfl⟩; dsimp only)
      | (go_at_call 77; (with_reducible refine HPA.out.mono ?_); rintro e w2 ⟨pb, mb, mc, n, nc, DC, lv, rfl, hpq, hcr, hb2⟩; have HB2 := Lib.hid hb2; have HPQ := Lib.hid hpq; have HCR := Lib.hid hcr; have e1 := HD1.out w2 (bthen HBW.out hb2); obtain ⟨_, _, _, _, f2, _⟩ := seven_cells hpq.blk; clear hb2 hpq hcr; dsimp only))
    go_ret2
    have hsz := HBW.out.size
    exact ⟨pb, mb, mc, n, nc, DC, lv, rfl, (LP.of true HPQ.out HCR.out).base hsz, (bthen HBW.out HB2.out).setCell (p := ⟨pb, 2, none⟩) (Nat.le_trans hsz HPQ.out.lo.1) _⟩
set_option maxRecDepth 100000 in
theorem loadBytesU_plain0 (s : ByteArray) (lb b c : Nat) (w : World) (hs : s.size ≤ 100000) (hsc : s.size ≤ c) (hT : Tabs w) (c0 : w.cell? ⟨lb, 0, none⟩ = some (.int .u64 0)) (c1 : w.cell? ⟨lb, 1, none⟩ = some (.bool true)) (hc : ∀ i, i < s.size → w.cell? ⟨b, i, none⟩ = some (.int .u8 ((numsB s).getD i 0))) (o : Option PSt) (ho : parL (lexL (unbom s)) [] pst0 = o) :
    Calls Tryz.prog 31 #[.pointer (some ⟨lb, 0, none⟩), .slice (some ⟨b, 0, none⟩) s.size c] w (LdPost o w) := by
  have HLB := Lib.hid (loadBytes_plain0 s lb b c w hs hsc hT c1 hc o ho)
  obtain ⟨n0, hn0⟩ : ∃ n1, s.size = n1 := ⟨_, rfl⟩
  rw [hn0] at HLB ⊢
  clear hc hT c1 hs hsc hn0 ho
  cases o with
  | none =>
    go_enter Tryz.func31, Tryz.ntmps31
    go_wp2_with (go_at_call 53; (with_reducible refine HLB.out.mono ?_); rintro e w2 ⟨N, rfl, hb2⟩; have HB2 := Lib.hid hb2; clear hb2; dsimp only)
    go_ret2
    exact ⟨N, rfl, HB2.out⟩
  | some p =>
    go_enter Tryz.func31, Tryz.ntmps31
    go_wp2_with (go_at_call 53; (with_reducible refine HLB.out.mono ?_); rintro e w2 ⟨pb, mb, mc, n, nc, DC, lv, rfl, hlp, hb2⟩; have HB2 := Lib.hid hb2; have HLP := Lib.hid hlp; clear hb2 hlp; dsimp only)
    go_ret2
    exact ⟨pb, mb, mc, n, nc, DC, lv, rfl, HLP.out, HB2.out⟩
end Go.Proofs.YtackciefmdiphaaGreatDoor
