/- The walk of strcase.ToScreamingDelimited. -/
import Derived.Test.YtpbehdlgmpmkaaaDoorContains
import Derived.Test.YtpbehdlgmpmkaaaDoorWByte
import Derived.Test.YtpbehdlgmpmkaaaDoorEnc
import Derived.Test.YtpbehdlgmpmkaaaDoorFrm
import Derived.Lib.ConvBytes
import Derived.Lib.SmallJoins
import Derived.Deep.Cut
import Derived.Deep.LoopGhost
import Derived.Outline
set_option linter.unusedVariables false
namespace Go.Proofs.YtpbehdlgmpmkaaaDoor
open Go.Shelf Go.RowKit Plain

/-- the tables that strings.TrimSpace reads -/
def STab (w : World) : Prop := Tabs w ∧ Lib.TabIs Tryd.prog w "strings.asciiSpace" .u8 Lib.asciiSpaceTab ∧ Lib.WhiteTab 1 w
theorem STab.below {w w' : World} (h : STab w) (hb : Below w.heap.size w w') : STab w' :=
  ⟨h.1.below hb, Joins.tab_stays (g := 0) (by kernel_rfl) h.2.1 hb (Nat.le_refl _), WhiteTab_below h.2.2 hb⟩
theorem right_le : ∀ (f : Nat) (l : List UInt8), (Lib.trimRightD f l).length ≤ l.length
  | 0, l => Nat.le_refl _
  | f + 1, l => by
    rw [Lib.trimRightD]
    split
    · simp
    split
    · refine Nat.le_trans (right_le f _) ?_
      rw [List.length_take]; omega
    · exact Nat.le_refl _
theorem trim_le (l : List UInt8) : (Lib.trimSpaceD l).length ≤ l.length := Nat.le_trans (right_le _ _) (Lib.trimLeftD_le _ _)

/-- behind Grow: a builder whose row is older than what comes next -/
theorem growC (b n : Nat) (z : Int) (hz : z = (n : Int)) (w : World) (hbk : w.heap[b]? = some (.cells #[.pointer none, .slice none 0 0] 42 (0, 0))) (hn : n ≤ 281474976710656) :
    Calls Tryd.prog 37 #[.pointer (some ⟨b, 0, none⟩), .int .i64 z] w fun e w' => e = .returned (.tuple #[]) ∧ IsBC b w'.heap.size [] w' ∧ Below b w w' := by
  have hlt : b < w.heap.size := by
    rcases Nat.lt_or_ge b w.heap.size with h' | h'
    · exact h'
    · simp [Array.getElem?_eq_none h'] at hbk
  subst hz
  refine (Tryd.Builder_Grow_fresh b b n w (Nat.le_refl _) hbk (Nat.le_of_lt hlt) hn).mono ?_
  rintro e w' ⟨rfl, hk, hb⟩
  refine ⟨rfl, ?_, hb⟩
  obtain ⟨hB, v, h1, h2, h3⟩ := hk
  refine ⟨v, h1, h2, h3, ?_⟩
  intro e
  have := h2.lt _ e
  omega

/-- a row of bytes -/
def BytesAt (c : Nat) (s : ByteArray) (w : World) : Prop := ∀ k x, s.data.toList[k]? = some x → w.cell? ⟨c, k, none⟩ = some (.int .u8 (x.toNat : Int))
theorem BytesAt.keep {c : Nat} {s : ByteArray} {w w' : World} (h : BytesAt c s w) (e : w'.heap[c]? = w.heap[c]?) : BytesAt c s w' := by
  intro k x hx
  have := h k x hx
  unfold World.cell? at this ⊢
  rwa [e]
theorem bytesAt_new (w : World) (s : ByteArray) : BytesAt w.heap.size s (Lib.bytesWorld w 5 s) := by
  intro k x hx
  have hk : k < s.size := by
    have := (List.getElem?_eq_some_iff.1 hx).1
    rwa [← Lib.size_eq] at this
  rw [Lib.bytesWorld_cell _ _ _ _ hk]
  simp [List.getD, hx]
theorem below_bytes (w : World) (s : ByteArray) : Below w.heap.size w (Lib.bytesWorld w 5 s) := ⟨rfl, rfl, rfl, by rw [Lib.bytesWorld_size]; omega, fun j hj => Lib.bytesWorld_at_old w 5 s j hj⟩

theorem lit201 (a : Act) (h : Fr 201 a) : ∃ f : Nat → Value, (∀ i, Sl a i = f i) ∧ a = ⟨#[f 0, f 1, f 2, f 3, f 4, f 5, f 6, f 7, f 8, f 9, f 10, f 11, f 12, f 13, f 14, f 15, f 16, f 17, f 18, f 19, f 20, f 21, f 22, f 23, f 24, f 25, f 26, f 27, f 28, f 29, f 30, f 31, f 32, f 33, f 34, f 35, f 36, f 37, f 38, f 39, f 40, f 41, f 42, f 43, f 44, f 45, f 46, f 47, f 48, f 49, f 50, f 51, f 52, f 53, f 54, f 55, f 56, f 57, f 58, f 59, f 60, f 61, f 62, f 63, f 64, f 65, f 66, f 67, f 68, f 69, f 70, f 71, f 72, f 73, f 74, f 75, f 76, f 77, f 78, f 79, f 80, f 81, f 82, f 83, f 84, f 85, f 86, f 87, f 88, f 89, f 90, f 91, f 92, f 93, f 94, f 95, f 96, f 97, f 98, f 99, f 100, f 101, f 102, f 103, f 104, f 105, f 106, f 107, f 108, f 109, f 110, f 111, f 112, f 113, f 114, f 115, f 116, f 117, f 118, f 119, f 120, f 121, f 122, f 123, f 124, f 125, f 126, f 127, f 128, f 129, f 130, f 131, f 132, f 133, f 134, f 135, f 136, f 137, f 138, f 139, f 140, f 141, f 142, f 143, f 144, f 145, f 146, f 147, f 148, f 149, f 150, f 151, f 152, f 153, f 154, f 155, f 156, f 157, f 158, f 159, f 160, f 161, f 162, f 163, f 164, f 165, f 166, f 167, f 168, f 169, f 170, f 171, f 172, f 173, f 174, f 175, f 176, f 177, f 178, f 179, f 180, f 181, f 182, f 183, f 184, f 185, f 186, f 187, f 188, f 189, f 190, f 191, f 192, f 193, f 194, f 195, f 196, f 197, f 198, f 199, f 200], []⟩ := frame_lit 201 a h
/-- the byte ahead of place 'k' -/
def prevAt (l : List UInt8) (k : Nat) : Option UInt8 := if k = 0 then none else l[k - 1]?

theorem cap_val (x : UInt8) : capB x = decide (65 ≤ (x.toNat : Int) ∧ (x.toNat : Int) ≤ 90) := by
  unfold capB; rw [← Bool.decide_and]; congr 1; simp; omega
theorem low_val (x : UInt8) : lowB x = decide (97 ≤ (x.toNat : Int) ∧ (x.toNat : Int) ≤ 122) := by
  unfold lowB; rw [← Bool.decide_and]; congr 1; simp; omega
theorem num_val (x : UInt8) : numB x = decide (48 ≤ (x.toNat : Int) ∧ (x.toNat : Int) ≤ 57) := by
  unfold numB; rw [← Bool.decide_and]; congr 1; simp; omega
theorem trn_val (scr : Bool) (x : UInt8) : ((trn scr x).toNat : Int) = if (97 ≤ (x.toNat : Int) ∧ (x.toNat : Int) ≤ 122) ∧ scr = true then (x.toNat : Int) - 32 else if (65 ≤ (x.toNat : Int) ∧ (x.toNat : Int) ≤ 90) ∧ scr = false then (x.toNat : Int) + 32 else x.toNat := by
  have h := byte_all (p := fun x => decide (((trn true x).toNat : Int) = if (97 ≤ (x.toNat : Int) ∧ (x.toNat : Int) ≤ 122) then (x.toNat : Int) - 32 else x.toNat) && decide (((trn false x).toNat : Int) = if (65 ≤ (x.toNat : Int) ∧ (x.toNat : Int) ≤ 90) then (x.toNat : Int) + 32 else x.toNat)) (by decide +kernel) x
  simp only [Bool.and_eq_true, decide_eq_true_eq] at h
  cases scr with
  | true => rw [h.1]; simp
  | false => rw [h.2]; simp
theorem sep5 (v : UInt8) : (v.toNat = 32 ∧ sepB v = true ∧ ((v.toNat : Int) == 32) = true) ∨ (v.toNat = 95 ∧ sepB v = true ∧ ((v.toNat : Int) == 32) = false ∧ ((v.toNat : Int) == 95) = true) ∨
    (v.toNat = 45 ∧ sepB v = true ∧ ((v.toNat : Int) == 32) = false ∧ ((v.toNat : Int) == 95) = false ∧ ((v.toNat : Int) == 45) = true) ∨
    (v.toNat = 46 ∧ sepB v = true ∧ ((v.toNat : Int) == 32) = false ∧ ((v.toNat : Int) == 95) = false ∧ ((v.toNat : Int) == 45) = false ∧ ((v.toNat : Int) == 46) = true) ∨
    (sepB v = false ∧ ((v.toNat : Int) == 32) = false ∧ ((v.toNat : Int) == 95) = false ∧ ((v.toNat : Int) == 45) = false ∧ ((v.toNat : Int) == 46) = false) := by
  simp only [beq_iff_eq, beq_eq_false_iff_ne, sepB, Bool.or_eq_true, Bool.or_eq_false_iff]
  omega
theorem prevAt_some (T : ByteArray) (k : Nat) (h0 : k ≠ 0) (h : k - 1 < T.size) (q : UInt8) (hq : T[k - 1] = q) : prevAt T.data.toList k = some q := by
  unfold prevAt
  rw [if_neg h0, ← hq]
  exact Lib.data_getElem? T (k - 1) h
theorem prevIgn_some (ign : List UInt8) (q : UInt8) (h : ign ≠ []) : prevIgn ign (some q) = hasB ign q := by
  cases ign with
  | nil => exact absurd rfl h
  | cons a l => rfl
theorem enc_le (z : Int) : (Utf8.encode z).size ≤ 2147483647 := Nat.le_trans (encode_size_le z) (by decide)
theorem dgo_at (d : UInt8) (ign : List UInt8) (scr : Bool) (l : List UInt8) (k : Nat) (x : UInt8) (h : l[k]? = some x) :
    dgo d ign scr (prevAt l k) (l.drop k) = outB d ign scr (prevAt l k) x l[k + 1]? ++ dgo d ign scr (prevAt l (k + 1)) (l.drop (k + 1)) := by
  obtain ⟨hk, hx⟩ := List.getElem?_eq_some_iff.1 h
  rw [List.drop_eq_getElem_cons hk, hx, dgo]
  congr 2
  · rw [List.head?_drop]
  · unfold prevAt
    rw [if_neg (by omega), Nat.add_sub_cancel, h]
theorem cls4 (x : UInt8) : (capB x = true ∧ lowB x = false ∧ numB x = false) ∨ (capB x = false ∧ lowB x = true ∧ numB x = false) ∨ (capB x = false ∧ lowB x = false ∧ numB x = true) ∨ (capB x = false ∧ lowB x = false ∧ numB x = false) := by
  obtain ⟨h1, h2, h3, _⟩ := cls x
  revert h1 h2 h3
  cases capB x <;> cases lowB x <;> cases numB x <;> simp
theorem num_turn (scr : Bool) (x v : UInt8) (h : trn scr x = v) : numB x = decide (48 ≤ (v.toNat : Int) ∧ (v.toNat : Int) ≤ 57) := by
  subst h
  rw [← num_val]
  have h := byte_all (p := fun x => (numB (trn true x) == numB x) && (numB (trn false x) == numB x)) (by decide +kernel) x
  simp only [Bool.and_eq_true, beq_iff_eq] at h
  cases scr
  · exact h.2.symm
  · exact h.1.symm
theorem outB_plain (d : UInt8) (ign : List UInt8) (scr : Bool) (p : Option UInt8) (x n v : UInt8) (h : trn scr x = v) (k : (bord x n && !prevIgn ign p) = false) : outB d ign scr p x (some n) = tailO d ign v := by
  simp only [outB, k, h]
  simp
theorem outB_bord (d : UInt8) (ign : List UInt8) (scr : Bool) (p : Option UInt8) (x n v : UInt8) (h : trn scr x = v) (k : (bord x n && !prevIgn ign p) = true) : outB d ign scr p x (some n) = (if capB x && lowB n && prevCap p then [d] else []) ++ v :: (if lowB x || numB x || numB n then [d] else []) := by
  simp only [outB, k, h]
  simp
theorem rng3 (x : UInt8) (lo hi : Int) : (x.toNat : Int) < lo ∨ (lo ≤ (x.toNat : Int) ∧ (x.toNat : Int) ≤ hi) ∨ hi < (x.toNat : Int) := by omega
theorem rng5 (x : UInt8) : (x.toNat : Int) < 65 ∨ (65 ≤ (x.toNat : Int) ∧ (x.toNat : Int) ≤ 90) ∨ (90 < (x.toNat : Int) ∧ (x.toNat : Int) < 97) ∨ (97 ≤ (x.toNat : Int) ∧ (x.toNat : Int) ≤ 122) ∨ 122 < (x.toNat : Int) := by omega

set_option maxHeartbeats 8000000 in
set_option maxRecDepth 100000 in
theorem delim_any (s ign : ByteArray) (d : UInt8) (scr : Bool) (w : World) (hs : s.size ≤ 2147483647) (hi : ign.size ≤ 2147483647) (hT : STab w) :
    Calls Tryd.prog 20 #[.string s, .int .u8 d.toNat, .string ign, .bool scr] w fun e w' => e = .returned (.string ⟨(dgo d ign.data.toList scr none (Lib.trimSpaceD s.data.toList)).toArray⟩) ∧ Below w.heap.size w w' := by
  obtain ⟨T, hTT⟩ : ∃ T : ByteArray, ⟨(Lib.trimSpaceD s.data.toList).toArray⟩ = T := ⟨_, rfl⟩
  have hTl : Lib.trimSpaceD s.data.toList = T.data.toList := by rw [← hTT]
  have hTs : T.size ≤ 2147483647 := by
    rw [Lib.size_eq, ← hTl]
    refine Nat.le_trans (trim_le _) ?_
    rw [← Lib.size_eq]; exact hs
  have hC := Tryd.strings_TrimSpace_any s w (by omega) hT.2.1 hT.1 hT.2.2
  rw [hTT] at hC
  rw [hTl]
  clear hTT hTl
  have HC := Lib.hid hC
  clear hC
  obtain ⟨ALL, hALL⟩ : ∃ ALL, dgo d ign.data.toList scr none T.data.toList = ALL := ⟨_, rfl⟩
  rw [hALL]
  have HALL := Lib.hid hALL
  clear hALL
  have hd256 : (d.toNat : Int) < 256 := by have := d.toNat_lt; omega
  go_enter Tryd.func20, Tryd.ntmps20
  go_wp2_with (go_at_call 36; (with_reducible refine HC.out.mono ?_); rintro e w1 ⟨rfl, hb1⟩; dsimp only)
  have hfr := heap_alloc_new w1 (.cells #[.pointer none, .slice none 0 0] 42)
  have hg := growC w1.heap.size (T.size + 2) ((T.size : Int) + 2) (by omega) _ hfr (by omega)
  clear hfr
  have HG := Lib.hid hg
  clear hg
  go_wp2_with (go_at_call 37; (with_reducible refine HG.out.mono ?_))
  rintro e w2 ⟨rfl, hB2, hb2⟩
  dsimp only
  have hb02 : Below w.heap.size w w2 := hb1.trans (((((Below.refl _ w1).alloc (Nat.le_refl _) _).trans hb2)).mono hb1.size)
  have hlt1 := hb1.size
  have hlt2 := hB2.lt
  go_wp2
  rw [Lib.run_convert_string_bytes w2 9 35 5 T (u := .string) Tryd.underlying9 Tryd.underlying35 Tryd.underlying5]
  simp only [Result.andThen]
  rw [Oper.upon_value]
  have hB3 := hB2.below (below_bytes w2 T)
  have hby := bytesAt_new w2 T
  have hb03 : Below w.heap.size w (Lib.bytesWorld w2 5 T) := bthen hb02 (below_bytes w2 T)
  have hsz3 : w2.heap.size < (Lib.bytesWorld w2 5 T).heap.size := by rw [Lib.bytesWorld_size]; omega
  obtain ⟨W3, hW3⟩ : ∃ W3, Lib.bytesWorld w2 5 T = W3 := ⟨_, rfl⟩
  rw [hW3] at hB3 hby hb03 hsz3 ⊢
  obtain ⟨c, hc⟩ : ∃ c, w2.heap.size = c := ⟨_, rfl⟩
  obtain ⟨b, hb⟩ : ∃ b, w1.heap.size = b := ⟨_, rfl⟩
  rw [hb, hc] at hB3
  rw [hc] at hby hsz3 hlt2
  rw [hb] at hlt2 hlt1
  rw [hb, hc]
  clear hW3 hB2 hb2 hb02 hb1 hc hb HC HG hT
  obtain ⟨CAP, hCAP⟩ : ∃ CAP, grownCap w2 T.size 0 5 = CAP := ⟨_, rfl⟩
  rw [hCAP]
  clear hCAP
  have hcb : c ≠ b := by omega
  go_wp2
  refine wp_loop_ghost_k (fun g a wr => ∃ (k : Nat) (B : List UInt8), k ≤ T.size ∧ g = T.size - k ∧ IsBC b c B wr ∧ c < wr.heap.size ∧ BytesAt c T wr ∧ Below w.heap.size w wr ∧ B.length ≤ 3 * k ∧ B ++ dgo d ign.data.toList scr (prevAt T.data.toList k) (T.data.toList.drop k) = ALL ∧ Fr 201 a ∧ Sl a 0 = .string T ∧ Sl a 1 = .int .u8 (d.toNat : Int) ∧ Sl a 2 = .string ign ∧ Sl a 3 = .bool scr ∧ Sl a 9 = .pointer (some ⟨b, 0, none⟩) ∧ Sl a 29 = .slice (some ⟨c, 0, none⟩) T.size CAP ∧ Sl a 30 = .int .i64 (T.size : Int) ∧ Sl a 31 = .int .i64 (k : Int)) T.size ?atStart ?round
  case atStart => exact ⟨0, [], Nat.zero_le _, rfl, hB3, hsz3, hby, hb03, by simp, HALL.out, ⟨rfl, rfl⟩, rfl, rfl, rfl, rfl, rfl, rfl, rfl, rfl⟩
  case round =>
    intro gk a wr hinv J K hJ hK
    obtain ⟨k, B, hk, rfl, hB, hcw, hbt, hbw, hBl, hall, hFr, hS0, hS1, hS2, hS3, hS9, hS29, hS30, hS31⟩ := hinv
    have HA := Lib.hid hall
    clear hall hB3 hby hb03 hsz3 HALL
    obtain ⟨f, hf, hA⟩ := lit201 a hFr
    rw [hf] at hS0 hS1 hS2 hS3 hS9 hS29 hS30 hS31
    rw [hS0, hS1, hS2, hS3, hS9, hS29, hS30, hS31] at hA
    clear hf hFr hS0 hS1 hS2 hS3 hS9 hS29 hS30 hS31
    subst hA
    by_cases hkn : k < T.size
    · have hkz : (k : Int) < (T.size : Int) := by omega
      obtain ⟨x, hx⟩ : ∃ x, T[k] = x := ⟨_, rfl⟩
      have hxl : T.data.toList[k]? = some x := by rw [← hx]; exact Lib.data_getElem? T k hkn
      have hcell := hbt k x hxl
      have HXL := Lib.hid hxl
      have HBT := Lib.hid hbt
      clear hxl hx hbt
      have hx256 : (x.toNat : Int) < 256 := by have := x.toNat_lt; omega
      have HTV := Lib.hid (trn_val scr x)
      have HCV := Lib.hid (cap_val x)
      have HLV := Lib.hid (low_val x)
      have HNV := Lib.hid (num_val x)
      go_upto_region 7 with fail
      refine wp_cut (fun a wx => wr = wx ∧ Fr 201 a ∧ Sl a 0 = .string T ∧ Sl a 1 = .int .u8 (d.toNat : Int) ∧ Sl a 2 = .string ign ∧ Sl a 3 = .bool scr ∧ Sl a 9 = .pointer (some ⟨b, 0, none⟩) ∧ Sl a 10 = .int .i64 (k : Int) ∧ Sl a 11 = .int .u8 (x.toNat : Int) ∧ Sl a 12 = .bool (capB x) ∧ Sl a 29 = .slice (some ⟨c, 0, none⟩) T.size CAP ∧ Sl a 30 = .int .i64 (T.size : Int) ∧ Sl a 31 = .int .i64 (k : Int)) ?resta ?firsta
      case firsta =>
        intro Ja Ka hJa hKa
        rcases rng3 x 65 90 with h | ⟨h, h'⟩ | h
        all_goals
          go_wp2_with fail
          refine Met.intro ?_
          go_step
          exact ⟨rfl, ⟨rfl, rfl⟩, rfl, rfl, rfl, rfl, rfl, rfl, rfl, congrArg Value.bool (by rw [HCV.out]; simp; omega), rfl, rfl, rfl⟩
      case resta =>
      intro a wx hcut
      obtain ⟨rfl, hFr, hS0, hS1, hS2, hS3, hS9, hS10, hS11, hS12, hS29, hS30, hS31⟩ := hcut
      obtain ⟨f, hf, hA⟩ := lit201 a hFr
      rw [hf] at hS0 hS1 hS2 hS3 hS9 hS10 hS11 hS12 hS29 hS30 hS31
      rw [hS0, hS1, hS2, hS3, hS9, hS10, hS11, hS12, hS29, hS30, hS31] at hA
      clear hf hFr hS0 hS1 hS2 hS3 hS9 hS10 hS11 hS12 hS29 hS30 hS31
      subst hA
      go_upto_region 8 with fail
      refine wp_cut (fun a wx => wr = wx ∧ Fr 201 a ∧ Sl a 0 = .string T ∧ Sl a 1 = .int .u8 (d.toNat : Int) ∧ Sl a 2 = .string ign ∧ Sl a 3 = .bool scr ∧ Sl a 9 = .pointer (some ⟨b, 0, none⟩) ∧ Sl a 10 = .int .i64 (k : Int) ∧ Sl a 11 = .int .u8 (x.toNat : Int) ∧ Sl a 12 = .bool (capB x) ∧ Sl a 13 = .bool (lowB x) ∧ Sl a 29 = .slice (some ⟨c, 0, none⟩) T.size CAP ∧ Sl a 30 = .int .i64 (T.size : Int) ∧ Sl a 31 = .int .i64 (k : Int)) ?restb ?firstb
      case firstb =>
        intro Jb Kb hJb hKb
        rcases rng3 x 97 122 with h | ⟨h, h'⟩ | h
        all_goals
          go_wp2_with fail
          refine Met.intro ?_
          go_step
          exact ⟨rfl, ⟨rfl, rfl⟩, rfl, rfl, rfl, rfl, rfl, rfl, rfl, rfl, congrArg Value.bool (by rw [HLV.out]; simp; omega), rfl, rfl, rfl⟩
      case restb =>
      intro a wx hcut
      obtain ⟨rfl, hFr, hS0, hS1, hS2, hS3, hS9, hS10, hS11, hS12, hS13, hS29, hS30, hS31⟩ := hcut
      obtain ⟨f, hf, hA⟩ := lit201 a hFr
      rw [hf] at hS0 hS1 hS2 hS3 hS9 hS10 hS11 hS12 hS13 hS29 hS30 hS31
      rw [hS0, hS1, hS2, hS3, hS9, hS10, hS11, hS12, hS13, hS29, hS30, hS31] at hA
      clear hf hFr hS0 hS1 hS2 hS3 hS9 hS10 hS11 hS12 hS13 hS29 hS30 hS31
      subst hA
      go_upto_region 9 with fail
      refine wp_cut (fun a wx => wr = wx ∧ Fr 201 a ∧ Sl a 0 = .string T ∧ Sl a 1 = .int .u8 (d.toNat : Int) ∧ Sl a 2 = .string ign ∧ Sl a 3 = .bool scr ∧ Sl a 9 = .pointer (some ⟨b, 0, none⟩) ∧ Sl a 10 = .int .i64 (k : Int) ∧ Sl a 11 = .int .u8 (x.toNat : Int) ∧ Sl a 12 = .bool (capB x) ∧ Sl a 13 = .bool (lowB x) ∧ Sl a 29 = .slice (some ⟨c, 0, none⟩) T.size CAP ∧ Sl a 30 = .int .i64 (T.size : Int) ∧ Sl a 31 = .int .i64 (k : Int) ∧ Sl a 51 = .bool (lowB x && scr)) ?restc ?firstc
      case firstc =>
        intro Jc Kc hJc hKc
        cases hl : lowB x
        all_goals
          go_wp2_with fail
          refine Met.intro ?_
          go_step
          exact ⟨rfl, ⟨rfl, rfl⟩, rfl, rfl, rfl, rfl, rfl, rfl, rfl, rfl, by first | rfl | exact congrArg Value.bool hl.symm, rfl, rfl, rfl, by first | rfl | (rw [hl]; rfl)⟩
      case restc =>
      intro a wx hcut
      obtain ⟨rfl, hFr, hS0, hS1, hS2, hS3, hS9, hS10, hS11, hS12, hS13, hS29, hS30, hS31, hS51⟩ := hcut
      obtain ⟨f, hf, hA⟩ := lit201 a hFr
      rw [hf] at hS0 hS1 hS2 hS3 hS9 hS10 hS11 hS12 hS13 hS29 hS30 hS31 hS51
      rw [hS0, hS1, hS2, hS3, hS9, hS10, hS11, hS12, hS13, hS29, hS30, hS31, hS51] at hA
      clear hf hFr hS0 hS1 hS2 hS3 hS9 hS10 hS11 hS12 hS13 hS29 hS30 hS31 hS51
      subst hA
      go_upto_if 51 with fail
      refine wp_cut (fun a wx => wr = wx ∧ Fr 201 a ∧ Sl a 0 = .string T ∧ Sl a 1 = .int .u8 (d.toNat : Int) ∧ Sl a 2 = .string ign ∧ Sl a 3 = .bool scr ∧ Sl a 9 = .pointer (some ⟨b, 0, none⟩) ∧ Sl a 10 = .int .i64 (k : Int) ∧ Sl a 11 = .int .u8 ((trn scr x).toNat : Int) ∧ Sl a 12 = .bool (capB x) ∧ Sl a 13 = .bool (lowB x) ∧ Sl a 29 = .slice (some ⟨c, 0, none⟩) T.size CAP ∧ Sl a 30 = .int .i64 (T.size : Int) ∧ Sl a 31 = .int .i64 (k : Int)) ?restd ?firstd
      case firstd =>
        intro Jd Kd hJd hKd
        have hcl := (cls x).1
        cases hl : lowB x
        · cases hc : capB x
          · have hb1 : True := trivial
            have hb2 : True := trivial
            have htv := HTV.out
            have HTX := Lib.hid htv
            clear htv
            cases scr
            all_goals
              go_wp2_with fail
              refine Met.intro ?_
              go_step
              exact ⟨rfl, ⟨rfl, rfl⟩, rfl, rfl, rfl, rfl, rfl, rfl, congrArg (Value.int .u8) (by first | (have hq := HCV.out; have hq2 := HLV.out; rw [hc] at hq; rw [hl] at hq2; rw [HTX.out]; simp at hq hq2 ⊢; omega)), by first | rfl | exact congrArg Value.bool hc.symm, by first | rfl | exact congrArg Value.bool hl.symm, rfl, rfl, rfl⟩
          · have hb1 : True := trivial
            have hb2 : 65 ≤ (x.toNat : Int) ∧ (x.toNat : Int) ≤ 90 := by have := HCV.out; rw [hc] at this; simpa using this.symm
            obtain ⟨hb2, hb2'⟩ := hb2
            have htv := HTV.out
            have HTX := Lib.hid htv
            clear htv
            cases scr
            all_goals
              go_wp2_with fail
              refine Met.intro ?_
              go_step
              exact ⟨rfl, ⟨rfl, rfl⟩, rfl, rfl, rfl, rfl, rfl, rfl, congrArg (Value.int .u8) (by first | (have hq := HCV.out; have hq2 := HLV.out; rw [hc] at hq; rw [hl] at hq2; rw [HTX.out]; simp at hq hq2 ⊢; omega)), by first | rfl | exact congrArg Value.bool hc.symm, by first | rfl | exact congrArg Value.bool hl.symm, rfl, rfl, rfl⟩
        · cases hc : capB x
          · have hb1 : 97 ≤ (x.toNat : Int) ∧ (x.toNat : Int) ≤ 122 := by have := HLV.out; rw [hl] at this; simpa using this.symm
            have hb2 : True := trivial
            obtain ⟨hb1, hb1'⟩ := hb1
            have htv := HTV.out
            have HTX := Lib.hid htv
            clear htv
            cases scr
            all_goals
              go_wp2_with fail
              refine Met.intro ?_
              go_step
              exact ⟨rfl, ⟨rfl, rfl⟩, rfl, rfl, rfl, rfl, rfl, rfl, congrArg (Value.int .u8) (by first | (have hq := HCV.out; have hq2 := HLV.out; rw [hc] at hq; rw [hl] at hq2; rw [HTX.out]; simp at hq hq2 ⊢; omega)), by first | rfl | exact congrArg Value.bool hc.symm, by first | rfl | exact congrArg Value.bool hl.symm, rfl, rfl, rfl⟩
          · rw [hl, hc] at hcl; cases hcl
      case restd =>
      intro a wx hcut
      obtain ⟨rfl, hFr, hS0, hS1, hS2, hS3, hS9, hS10, hS11, hS12, hS13, hS29, hS30, hS31⟩ := hcut
      obtain ⟨f, hf, hA⟩ := lit201 a hFr
      rw [hf] at hS0 hS1 hS2 hS3 hS9 hS10 hS11 hS12 hS13 hS29 hS30 hS31
      rw [hS0, hS1, hS2, hS3, hS9, hS10, hS11, hS12, hS13, hS29, hS30, hS31] at hA
      clear hf hFr hS0 hS1 hS2 hS3 hS9 hS10 hS11 hS12 hS13 hS29 hS30 hS31
      subst hA
      obtain ⟨v, hv⟩ : ∃ v, trn scr x = v := ⟨_, rfl⟩
      rw [hv]
      have HV := Lib.hid hv
      clear hv
      go_upto_if 69 with fail
      refine wp_cut (fun a wx => Below wr.heap.size wr wx ∧ outB d ign.data.toList scr (prevAt T.data.toList k) x T.data.toList[k + 1]? = tailO d ign.data.toList v ∧ Fr 201 a ∧ Sl a 0 = .string T ∧ Sl a 1 = .int .u8 (d.toNat : Int) ∧ Sl a 2 = .string ign ∧ Sl a 3 = .bool scr ∧ Sl a 9 = .pointer (some ⟨b, 0, none⟩) ∧ Sl a 10 = .int .i64 (k : Int) ∧ Sl a 11 = .int .u8 (v.toNat : Int) ∧ Sl a 12 = .bool (capB x) ∧ Sl a 13 = .bool (lowB x) ∧ Sl a 29 = .slice (some ⟨c, 0, none⟩) T.size CAP ∧ Sl a 30 = .int .i64 (T.size : Int) ∧ Sl a 31 = .int .i64 (k : Int)) ?restE ?firstE
      case firstE =>
        intro Je Ke hJe hKe
        by_cases hn : k + 1 < T.size
        · have hnz : (k : Int) + 1 < (T.size : Int) := by omega
          obtain ⟨n, hnx⟩ : ∃ n, T[k + 1] = n := ⟨_, rfl⟩
          have HNX := Lib.hid (show T.data.toList[k + 1]? = some n by rw [← hnx]; exact Lib.data_getElem? T (k + 1) hn)
          have hn256 : (n.toNat : Int) < 256 := by have := n.toNat_lt; omega
          have HCN := Lib.hid (cap_val n)
          have HLN := Lib.hid (low_val n)
          have HNN := Lib.hid (num_val n)
          have HNV2 := Lib.hid (num_turn scr x v HV.out)
          go_upto_region 17 with fail
          refine wp_cut (fun a wx => wr = wx ∧ Fr 201 a ∧ Sl a 0 = .string T ∧ Sl a 1 = .int .u8 (d.toNat : Int) ∧ Sl a 2 = .string ign ∧ Sl a 3 = .bool scr ∧ Sl a 9 = .pointer (some ⟨b, 0, none⟩) ∧ Sl a 10 = .int .i64 (k : Int) ∧ Sl a 11 = .int .u8 (v.toNat : Int) ∧ Sl a 12 = .bool (capB x) ∧ Sl a 13 = .bool (lowB x) ∧ Sl a 14 = .int .u8 (n.toNat : Int) ∧ Sl a 15 = .bool (numB x) ∧ Sl a 29 = .slice (some ⟨c, 0, none⟩) T.size CAP ∧ Sl a 30 = .int .i64 (T.size : Int) ∧ Sl a 31 = .int .i64 (k : Int)) ?restf ?firstf
          case firstf =>
            intro Jf Kf hJf hKf
            rcases rng3 v 48 57 with h | ⟨h, h'⟩ | h
            all_goals
              go_wp2_with fail
              refine Met.intro ?_
              go_step
              exact ⟨rfl, ⟨rfl, rfl⟩, rfl, rfl, rfl, rfl, rfl, rfl, rfl, rfl, rfl, rfl, congrArg Value.bool (by rw [HNV2.out]; simp; omega), rfl, rfl, rfl⟩
          case restf =>
          intro a wx hcut
          obtain ⟨rfl, hFr, hS0, hS1, hS2, hS3, hS9, hS10, hS11, hS12, hS13, hS14, hS15, hS29, hS30, hS31⟩ := hcut
          obtain ⟨f, hf, hA⟩ := lit201 a hFr
          rw [hf] at hS0 hS1 hS2 hS3 hS9 hS10 hS11 hS12 hS13 hS14 hS15 hS29 hS30 hS31
          rw [hS0, hS1, hS2, hS3, hS9, hS10, hS11, hS12, hS13, hS14, hS15, hS29, hS30, hS31] at hA
          clear hf hFr hS0 hS1 hS2 hS3 hS9 hS10 hS11 hS12 hS13 hS14 hS15 hS29 hS30 hS31
          subst hA
          go_upto_region 18 with fail
          refine wp_cut (fun a wx => wr = wx ∧ Fr 201 a ∧ Sl a 0 = .string T ∧ Sl a 1 = .int .u8 (d.toNat : Int) ∧ Sl a 2 = .string ign ∧ Sl a 3 = .bool scr ∧ Sl a 9 = .pointer (some ⟨b, 0, none⟩) ∧ Sl a 10 = .int .i64 (k : Int) ∧ Sl a 11 = .int .u8 (v.toNat : Int) ∧ Sl a 12 = .bool (capB x) ∧ Sl a 13 = .bool (lowB x) ∧ Sl a 14 = .int .u8 (n.toNat : Int) ∧ Sl a 15 = .bool (numB x) ∧ Sl a 16 = .bool (capB n) ∧ Sl a 29 = .slice (some ⟨c, 0, none⟩) T.size CAP ∧ Sl a 30 = .int .i64 (T.size : Int) ∧ Sl a 31 = .int .i64 (k : Int)) ?restg ?firstg
          case firstg =>
            intro Jg Kg hJg hKg
            rcases rng3 n 65 90 with h | ⟨h, h'⟩ | h
            all_goals
              go_wp2_with fail
              refine Met.intro ?_
              go_step
              exact ⟨rfl, ⟨rfl, rfl⟩, rfl, rfl, rfl, rfl, rfl, rfl, rfl, rfl, rfl, rfl, rfl, congrArg Value.bool (by rw [HCN.out]; simp; omega), rfl, rfl, rfl⟩
          case restg =>
          intro a wx hcut
          obtain ⟨rfl, hFr, hS0, hS1, hS2, hS3, hS9, hS10, hS11, hS12, hS13, hS14, hS15, hS16, hS29, hS30, hS31⟩ := hcut
          obtain ⟨f, hf, hA⟩ := lit201 a hFr
          rw [hf] at hS0 hS1 hS2 hS3 hS9 hS10 hS11 hS12 hS13 hS14 hS15 hS16 hS29 hS30 hS31
          rw [hS0, hS1, hS2, hS3, hS9, hS10, hS11, hS12, hS13, hS14, hS15, hS16, hS29, hS30, hS31] at hA
          clear hf hFr hS0 hS1 hS2 hS3 hS9 hS10 hS11 hS12 hS13 hS14 hS15 hS16 hS29 hS30 hS31
          subst hA
          go_upto_region 19 with fail
          refine wp_cut (fun a wx => wr = wx ∧ Fr 201 a ∧ Sl a 0 = .string T ∧ Sl a 1 = .int .u8 (d.toNat : Int) ∧ Sl a 2 = .string ign ∧ Sl a 3 = .bool scr ∧ Sl a 9 = .pointer (some ⟨b, 0, none⟩) ∧ Sl a 10 = .int .i64 (k : Int) ∧ Sl a 11 = .int .u8 (v.toNat : Int) ∧ Sl a 12 = .bool (capB x) ∧ Sl a 13 = .bool (lowB x) ∧ Sl a 14 = .int .u8 (n.toNat : Int) ∧ Sl a 15 = .bool (numB x) ∧ Sl a 16 = .bool (capB n) ∧ Sl a 17 = .bool (lowB n) ∧ Sl a 29 = .slice (some ⟨c, 0, none⟩) T.size CAP ∧ Sl a 30 = .int .i64 (T.size : Int) ∧ Sl a 31 = .int .i64 (k : Int)) ?resth ?firsth
          case firsth =>
            intro Jh Kh hJh hKh
            rcases rng3 n 97 122 with h | ⟨h, h'⟩ | h
            all_goals
              go_wp2_with fail
              refine Met.intro ?_
              go_step
              exact ⟨rfl, ⟨rfl, rfl⟩, rfl, rfl, rfl, rfl, rfl, rfl, rfl, rfl, rfl, rfl, rfl, rfl, congrArg Value.bool (by rw [HLN.out]; simp; omega), rfl, rfl, rfl⟩
          case resth =>
          intro a wx hcut
          obtain ⟨rfl, hFr, hS0, hS1, hS2, hS3, hS9, hS10, hS11, hS12, hS13, hS14, hS15, hS16, hS17, hS29, hS30, hS31⟩ := hcut
          obtain ⟨f, hf, hA⟩ := lit201 a hFr
          rw [hf] at hS0 hS1 hS2 hS3 hS9 hS10 hS11 hS12 hS13 hS14 hS15 hS16 hS17 hS29 hS30 hS31
          rw [hS0, hS1, hS2, hS3, hS9, hS10, hS11, hS12, hS13, hS14, hS15, hS16, hS17, hS29, hS30, hS31] at hA
          clear hf hFr hS0 hS1 hS2 hS3 hS9 hS10 hS11 hS12 hS13 hS14 hS15 hS16 hS17 hS29 hS30 hS31
          subst hA
          go_upto_region 20 with fail
          refine wp_cut (fun a wx => wr = wx ∧ Fr 201 a ∧ Sl a 0 = .string T ∧ Sl a 1 = .int .u8 (d.toNat : Int) ∧ Sl a 2 = .string ign ∧ Sl a 3 = .bool scr ∧ Sl a 9 = .pointer (some ⟨b, 0, none⟩) ∧ Sl a 10 = .int .i64 (k : Int) ∧ Sl a 11 = .int .u8 (v.toNat : Int) ∧ Sl a 12 = .bool (capB x) ∧ Sl a 13 = .bool (lowB x) ∧ Sl a 14 = .int .u8 (n.toNat : Int) ∧ Sl a 15 = .bool (numB x) ∧ Sl a 16 = .bool (capB n) ∧ Sl a 17 = .bool (lowB n) ∧ Sl a 18 = .bool (numB n) ∧ Sl a 29 = .slice (some ⟨c, 0, none⟩) T.size CAP ∧ Sl a 30 = .int .i64 (T.size : Int) ∧ Sl a 31 = .int .i64 (k : Int)) ?resti ?firsti
          case firsti =>
            intro Ji Ki hJi hKi
            rcases rng3 n 48 57 with h | ⟨h, h'⟩ | h
            all_goals
              go_wp2_with fail
              refine Met.intro ?_
              go_step
              exact ⟨rfl, ⟨rfl, rfl⟩, rfl, rfl, rfl, rfl, rfl, rfl, rfl, rfl, rfl, rfl, rfl, rfl, rfl, congrArg Value.bool (by rw [HNN.out]; simp; omega), rfl, rfl, rfl⟩
          case resti =>
          intro a wx hcut
          obtain ⟨rfl, hFr, hS0, hS1, hS2, hS3, hS9, hS10, hS11, hS12, hS13, hS14, hS15, hS16, hS17, hS18, hS29, hS30, hS31⟩ := hcut
          obtain ⟨f, hf, hA⟩ := lit201 a hFr
          rw [hf] at hS0 hS1 hS2 hS3 hS9 hS10 hS11 hS12 hS13 hS14 hS15 hS16 hS17 hS18 hS29 hS30 hS31
          rw [hS0, hS1, hS2, hS3, hS9, hS10, hS11, hS12, hS13, hS14, hS15, hS16, hS17, hS18, hS29, hS30, hS31] at hA
          clear hf hFr hS0 hS1 hS2 hS3 hS9 hS10 hS11 hS12 hS13 hS14 hS15 hS16 hS17 hS18 hS29 hS30 hS31
          subst hA
          go_upto_region 21 with fail
          refine wp_cut (fun a wx => wr = wx ∧ Fr 201 a ∧ Sl a 0 = .string T ∧ Sl a 1 = .int .u8 (d.toNat : Int) ∧ Sl a 2 = .string ign ∧ Sl a 3 = .bool scr ∧ Sl a 9 = .pointer (some ⟨b, 0, none⟩) ∧ Sl a 10 = .int .i64 (k : Int) ∧ Sl a 11 = .int .u8 (v.toNat : Int) ∧ Sl a 12 = .bool (capB x) ∧ Sl a 13 = .bool (lowB x) ∧ Sl a 14 = .int .u8 (n.toNat : Int) ∧ Sl a 15 = .bool (numB x) ∧ Sl a 16 = .bool (capB n) ∧ Sl a 17 = .bool (lowB n) ∧ Sl a 18 = .bool (numB n) ∧ Sl a 29 = .slice (some ⟨c, 0, none⟩) T.size CAP ∧ Sl a 30 = .int .i64 (T.size : Int) ∧ Sl a 31 = .int .i64 (k : Int) ∧ Sl a 122 = .bool (bord x n)) ?restj ?firstj
          case firstj =>
            intro Jj Kj hJj hKj
            obtain ⟨xc, xl, xm, hx4, hxx⟩ : ∃ xc xl xm, (capB x = xc ∧ lowB x = xl ∧ numB x = xm) ∧ ((xc = true ∧ xl = false ∧ xm = false) ∨ (xc = false ∧ xl = true ∧ xm = false) ∨ (xc = false ∧ xl = false ∧ xm = true) ∨ (xc = false ∧ xl = false ∧ xm = false)) := ⟨_, _, _, ⟨rfl, rfl, rfl⟩, cls4 x⟩
            obtain ⟨nc, nl, nm, hn4, hnn⟩ : ∃ nc nl nm, (capB n = nc ∧ lowB n = nl ∧ numB n = nm) ∧ ((nc = true ∧ nl = false ∧ nm = false) ∨ (nc = false ∧ nl = true ∧ nm = false) ∨ (nc = false ∧ nl = false ∧ nm = true) ∨ (nc = false ∧ nl = false ∧ nm = false)) := ⟨_, _, _, ⟨rfl, rfl, rfl⟩, cls4 n⟩
            rw [hx4.1, hx4.2.1, hx4.2.2, hn4.1, hn4.2.1, hn4.2.2]
            have hbo : bord x n = ((xc && (nl || nm)) || (xl && (nc || nm)) || (xm && (nc || nl))) := by unfold bord; rw [hx4.1, hx4.2.1, hx4.2.2, hn4.1, hn4.2.1, hn4.2.2]
            have HC4 := Lib.hid hx4
            have HN4 := Lib.hid hn4
            have HBO := Lib.hid hbo
            clear hx4 hn4 hbo HCV HLV HNV HTV HNV2 HCN HLN HNN
            rcases hxx with ⟨rfl, rfl, rfl⟩ | ⟨rfl, rfl, rfl⟩ | ⟨rfl, rfl, rfl⟩ | ⟨rfl, rfl, rfl⟩
            · rcases hnn with ⟨rfl, rfl, rfl⟩ | ⟨rfl, rfl, rfl⟩ | ⟨rfl, rfl, rfl⟩ | ⟨rfl, rfl, rfl⟩
              all_goals
                go_wp2_with fail
                refine Met.intro ?_
                go_step
                exact ⟨rfl, ⟨rfl, rfl⟩, rfl, rfl, rfl, rfl, rfl, rfl, rfl, congrArg Value.bool HC4.out.1.symm, congrArg Value.bool HC4.out.2.1.symm, rfl, congrArg Value.bool HC4.out.2.2.symm, congrArg Value.bool HN4.out.1.symm, congrArg Value.bool HN4.out.2.1.symm, congrArg Value.bool HN4.out.2.2.symm, rfl, rfl, rfl, congrArg Value.bool HBO.out.symm⟩
            · rcases hnn with ⟨rfl, rfl, rfl⟩ | ⟨rfl, rfl, rfl⟩ | ⟨rfl, rfl, rfl⟩ | ⟨rfl, rfl, rfl⟩
              all_goals
                go_wp2_with fail
                refine Met.intro ?_
                go_step
                exact ⟨rfl, ⟨rfl, rfl⟩, rfl, rfl, rfl, rfl, rfl, rfl, rfl, congrArg Value.bool HC4.out.1.symm, congrArg Value.bool HC4.out.2.1.symm, rfl, congrArg Value.bool HC4.out.2.2.symm, congrArg Value.bool HN4.out.1.symm, congrArg Value.bool HN4.out.2.1.symm, congrArg Value.bool HN4.out.2.2.symm, rfl, rfl, rfl, congrArg Value.bool HBO.out.symm⟩
            · rcases hnn with ⟨rfl, rfl, rfl⟩ | ⟨rfl, rfl, rfl⟩ | ⟨rfl, rfl, rfl⟩ | ⟨rfl, rfl, rfl⟩
              all_goals
                go_wp2_with fail
                refine Met.intro ?_
                go_step
                exact ⟨rfl, ⟨rfl, rfl⟩, rfl, rfl, rfl, rfl, rfl, rfl, rfl, congrArg Value.bool HC4.out.1.symm, congrArg Value.bool HC4.out.2.1.symm, rfl, congrArg Value.bool HC4.out.2.2.symm, congrArg Value.bool HN4.out.1.symm, congrArg Value.bool HN4.out.2.1.symm, congrArg Value.bool HN4.out.2.2.symm, rfl, rfl, rfl, congrArg Value.bool HBO.out.symm⟩
            · clear hnn
              go_wp2_with fail
              refine Met.intro ?_
              go_step
              exact ⟨rfl, ⟨rfl, rfl⟩, rfl, rfl, rfl, rfl, rfl, rfl, rfl, congrArg Value.bool HC4.out.1.symm, congrArg Value.bool HC4.out.2.1.symm, rfl, congrArg Value.bool HC4.out.2.2.symm, congrArg Value.bool HN4.out.1.symm, congrArg Value.bool HN4.out.2.1.symm, congrArg Value.bool HN4.out.2.2.symm, rfl, rfl, rfl, congrArg Value.bool HBO.out.symm⟩
          case restj =>
          intro a wx hcut
          obtain ⟨rfl, hFr, hS0, hS1, hS2, hS3, hS9, hS10, hS11, hS12, hS13, hS14, hS15, hS16, hS17, hS18, hS29, hS30, hS31, hS122⟩ := hcut
          obtain ⟨f, hf, hA⟩ := lit201 a hFr
          rw [hf] at hS0 hS1 hS2 hS3 hS9 hS10 hS11 hS12 hS13 hS14 hS15 hS16 hS17 hS18 hS29 hS30 hS31 hS122
          rw [hS0, hS1, hS2, hS3, hS9, hS10, hS11, hS12, hS13, hS14, hS15, hS16, hS17, hS18, hS29, hS30, hS31, hS122] at hA
          clear hf hFr hS0 hS1 hS2 hS3 hS9 hS10 hS11 hS12 hS13 hS14 hS15 hS16 hS17 hS18 hS29 hS30 hS31 hS122
          subst hA
          cases hbo : bord x n with
          | false =>
            have HBO := Lib.hid hbo
            clear hbo
            go_wp2_with fail
            refine Met.intro ?_
            go_step
            exact ⟨Below.refl _ _, (by rw [HNX.out]; exact outB_plain _ _ _ _ _ _ _ HV.out (by rw [HBO.out]; rfl)), ⟨rfl, rfl⟩, rfl, rfl, rfl, rfl, rfl, rfl, rfl, rfl, rfl, rfl, rfl, rfl⟩
          | true =>
            have HBO := Lib.hid hbo
            clear hbo
            go_upto_region 22 with fail
            refine wp_cut (fun a wx => Below wr.heap.size wr wx ∧ Fr 201 a ∧ Sl a 0 = .string T ∧ Sl a 1 = .int .u8 (d.toNat : Int) ∧ Sl a 2 = .string ign ∧ Sl a 3 = .bool scr ∧ Sl a 9 = .pointer (some ⟨b, 0, none⟩) ∧ Sl a 10 = .int .i64 (k : Int) ∧ Sl a 11 = .int .u8 (v.toNat : Int) ∧ Sl a 12 = .bool (capB x) ∧ Sl a 13 = .bool (lowB x) ∧ Sl a 14 = .int .u8 (n.toNat : Int) ∧ Sl a 15 = .bool (numB x) ∧ Sl a 16 = .bool (capB n) ∧ Sl a 17 = .bool (lowB n) ∧ Sl a 18 = .bool (numB n) ∧ Sl a 19 = .bool (prevIgn ign.data.toList (prevAt T.data.toList k)) ∧ Sl a 29 = .slice (some ⟨c, 0, none⟩) T.size CAP ∧ Sl a 30 = .int .i64 (T.size : Int) ∧ Sl a 31 = .int .i64 (k : Int)) ?restk ?firstk
            case firstk =>
              intro Jk Kk hJk hKk
              by_cases hie : ign.toList = []
              · have HIE := Lib.hid (show ign.data.toList = [] by rw [← Lib.toList_data]; exact hie)
                go_wp2_with fail
                refine Met.intro ?_
                go_step
                exact ⟨Below.refl _ _, ⟨rfl, rfl⟩, rfl, rfl, rfl, rfl, rfl, rfl, rfl, rfl, rfl, rfl, rfl, rfl, rfl, rfl, congrArg Value.bool (by rw [HIE.out, prevIgn_nil]), rfl, rfl, rfl⟩
              · have HIE := Lib.hid (show ign.data.toList ≠ [] by rw [← Lib.toList_data]; exact hie)
                have hie2 : ign.toList.isEmpty = false := by cases h : ign.toList with | nil => exact absurd h hie | cons a l => rfl
                by_cases hk0 : k = 0
                · have HK0 := Lib.hid hk0
                  have hkz0 : ¬ (0 : Int) < (k : Int) := by omega
                  clear hk0
                  go_wp2_with fail
                  refine Met.intro ?_
                  go_step
                  exact ⟨Below.refl _ _, ⟨rfl, rfl⟩, rfl, rfl, rfl, rfl, rfl, rfl, rfl, rfl, rfl, rfl, rfl, rfl, rfl, rfl, congrArg Value.bool (by rw [HK0.out]; rfl), rfl, rfl, rfl⟩
                · have hkz0 : (0 : Int) < (k : Int) := by omega
                  have hk1 : (k : Int) - 1 < (T.size : Int) := by omega
                  have hk2 : (0 : Int) ≤ (k : Int) - 1 := by omega
                  have hk3 : k - 1 < T.size := by omega
                  obtain ⟨q, hq⟩ : ∃ q, T[k - 1] = q := ⟨_, rfl⟩
                  have HPQ := Lib.hid (prevAt_some T k hk0 hk3 q hq)
                  cases hpq : hasB ign.data.toList q
                  all_goals
                    have HCon := Lib.hid (fun w => containsAny_any (Utf8.encode (q.toNat : Int)) ign w (enc_le _) hi _ (show anyA (Utf8.encode (q.toNat : Int)).data.toList ign.data.toList = _ by rw [encode_list, anyA_byte, hpq]))
                    have HPB := Lib.hid hpq
                    clear hpq
                    go_wp2_with (go_at_call 38; (with_reducible refine (HCon.out _).mono ?_); rintro e w5 ⟨rfl, hb5⟩; dsimp only)
                    refine Met.intro ?_
                    go_step
                    exact ⟨hb5, ⟨rfl, rfl⟩, rfl, rfl, rfl, rfl, rfl, rfl, rfl, rfl, rfl, rfl, rfl, rfl, rfl, rfl, congrArg Value.bool (by rw [HPQ.out, prevIgn_some _ _ HIE.out, HPB.out]), rfl, rfl, rfl⟩
            case restk =>
            intro a wx hcut
            obtain ⟨hbk, hFr, hS0, hS1, hS2, hS3, hS9, hS10, hS11, hS12, hS13, hS14, hS15, hS16, hS17, hS18, hS19, hS29, hS30, hS31⟩ := hcut
            obtain ⟨f, hf, hA⟩ := lit201 a hFr
            rw [hf] at hS0 hS1 hS2 hS3 hS9 hS10 hS11 hS12 hS13 hS14 hS15 hS16 hS17 hS18 hS19 hS29 hS30 hS31
            rw [hS0, hS1, hS2, hS3, hS9, hS10, hS11, hS12, hS13, hS14, hS15, hS16, hS17, hS18, hS19, hS29, hS30, hS31] at hA
            clear hf hFr hS0 hS1 hS2 hS3 hS9 hS10 hS11 hS12 hS13 hS14 hS15 hS16 hS17 hS18 hS19 hS29 hS30 hS31
            subst hA
            have hBk := hB.below hbk
            have hck : c < wx.heap.size := Nat.lt_of_lt_of_le hcw hbk.size
            have HBTk := Lib.hid (HBT.out.keep (hbk.block c hcw))
            have hbwk : Below w.heap.size w wx := bthen hbw hbk
            cases hpi : prevIgn ign.data.toList (prevAt T.data.toList k) with
            | true =>
              have HPI := Lib.hid hpi
              clear hpi
              go_wp2_with fail
              refine Met.intro ?_
              go_step
              exact ⟨hbk, (by rw [HNX.out]; exact outB_plain _ _ _ _ _ _ _ HV.out (by rw [HPI.out]; simp)), ⟨rfl, rfl⟩, rfl, rfl, rfl, rfl, rfl, rfl, rfl, rfl, rfl, rfl, rfl, rfl⟩
            | false =>
              have HPI := Lib.hid hpi
              clear hpi
              obtain ⟨wy, hwy⟩ : ∃ wy : World, wy = wx := ⟨_, rfl⟩
              subst hwy
              go_upto_region 24 with fail
              refine wp_cut (fun a wx => wy = wx ∧ Fr 201 a ∧ Sl a 0 = .string T ∧ Sl a 1 = .int .u8 (d.toNat : Int) ∧ Sl a 2 = .string ign ∧ Sl a 3 = .bool scr ∧ Sl a 9 = .pointer (some ⟨b, 0, none⟩) ∧ Sl a 10 = .int .i64 (k : Int) ∧ Sl a 11 = .int .u8 (v.toNat : Int) ∧ Sl a 12 = .bool (capB x) ∧ Sl a 13 = .bool (lowB x) ∧ Sl a 14 = .int .u8 (n.toNat : Int) ∧ Sl a 15 = .bool (numB x) ∧ Sl a 16 = .bool (capB n) ∧ Sl a 17 = .bool (lowB n) ∧ Sl a 18 = .bool (numB n) ∧ Sl a 29 = .slice (some ⟨c, 0, none⟩) T.size CAP ∧ Sl a 30 = .int .i64 (T.size : Int) ∧ Sl a 31 = .int .i64 (k : Int) ∧ Sl a 143 = .bool (capB x && lowB n)) ?restl ?firstl
              case firstl =>
                intro Jl Kl hJl hKl
                cases hc : capB x
                all_goals
                  go_wp2_with fail
                  refine Met.intro ?_
                  go_step
                  exact ⟨rfl, ⟨rfl, rfl⟩, rfl, rfl, rfl, rfl, rfl, rfl, rfl, congrArg Value.bool hc.symm, rfl, rfl, rfl, rfl, rfl, rfl, rfl, rfl, rfl, congrArg Value.bool (by rw [hc]; rfl)⟩
              case restl =>
              intro a wx hcut
              obtain ⟨rfl, hFr, hS0, hS1, hS2, hS3, hS9, hS10, hS11, hS12, hS13, hS14, hS15, hS16, hS17, hS18, hS29, hS30, hS31, hS143⟩ := hcut
              obtain ⟨f, hf, hA⟩ := lit201 a hFr
              rw [hf] at hS0 hS1 hS2 hS3 hS9 hS10 hS11 hS12 hS13 hS14 hS15 hS16 hS17 hS18 hS29 hS30 hS31 hS143
              rw [hS0, hS1, hS2, hS3, hS9, hS10, hS11, hS12, hS13, hS14, hS15, hS16, hS17, hS18, hS29, hS30, hS31, hS143] at hA
              clear hf hFr hS0 hS1 hS2 hS3 hS9 hS10 hS11 hS12 hS13 hS14 hS15 hS16 hS17 hS18 hS29 hS30 hS31 hS143
              subst hA
              go_upto_if 143 with fail
              refine wp_cut (fun a wx => IsBC b c (B ++ (if capB x && lowB n && prevCap (prevAt T.data.toList k) then [d] else [])) wx ∧ c < wx.heap.size ∧ BytesAt c T wx ∧ Below w.heap.size w wx ∧ Fr 201 a ∧ Sl a 0 = .string T ∧ Sl a 1 = .int .u8 (d.toNat : Int) ∧ Sl a 2 = .string ign ∧ Sl a 3 = .bool scr ∧ Sl a 9 = .pointer (some ⟨b, 0, none⟩) ∧ Sl a 10 = .int .i64 (k : Int) ∧ Sl a 11 = .int .u8 (v.toNat : Int) ∧ Sl a 12 = .bool (capB x) ∧ Sl a 13 = .bool (lowB x) ∧ Sl a 14 = .int .u8 (n.toNat : Int) ∧ Sl a 15 = .bool (numB x) ∧ Sl a 16 = .bool (capB n) ∧ Sl a 17 = .bool (lowB n) ∧ Sl a 18 = .bool (numB n) ∧ Sl a 29 = .slice (some ⟨c, 0, none⟩) T.size CAP ∧ Sl a 30 = .int .i64 (T.size : Int) ∧ Sl a 31 = .int .i64 (k : Int)) ?restm ?firstm
              case firstm =>
                intro Jm Km hJm hKm
                cases hcl : capB x && lowB n with
                | false =>
                  have HCL := Lib.hid hcl
                  clear hcl
                  go_wp2_with fail
                  refine Met.intro ?_
                  go_step
                  exact ⟨(by rw [HCL.out]; simpa using hBk), hck, HBTk.out, hbwk, ⟨rfl, rfl⟩, rfl, rfl, rfl, rfl, rfl, rfl, rfl, rfl, rfl, rfl, rfl, rfl, rfl, rfl, rfl, rfl, rfl⟩
                | true =>
                  have HCL := Lib.hid hcl
                  clear hcl
                  by_cases hk0 : k = 0
                  · have HK0 := Lib.hid hk0
                    have hkz0 : ¬ (0 : Int) < (k : Int) := by omega
                    clear hk0
                    go_wp2_with fail
                    refine Met.intro ?_
                    go_step
                    exact ⟨(by rw [HCL.out, HK0.out]; simpa [prevAt, prevCap] using hBk), hck, HBTk.out, hbwk, ⟨rfl, rfl⟩, rfl, rfl, rfl, rfl, rfl, rfl, rfl, rfl, rfl, rfl, rfl, rfl, rfl, rfl, rfl, rfl, rfl⟩
                  · have hkz0 : (0 : Int) < (k : Int) := by omega
                    have hk1 : (k : Int) - 1 < (T.size : Int) := by omega
                    have hk2 : (0 : Int) ≤ (k : Int) - 1 := by omega
                    have hk3 : k - 1 < T.size := by omega
                    obtain ⟨q, hq⟩ : ∃ q, T[k - 1] = q := ⟨_, rfl⟩
                    have HPQ := Lib.hid (prevAt_some T k hk0 hk3 q hq)
                    have HCQ := Lib.hid (cap_val q)
                    have hBl1 : B.length + 1 ≤ 140737488355328 := by omega
                    rcases rng3 q 65 90 with h | ⟨h, h'⟩ | h
                    · have HPC := Lib.hid (show prevCap (prevAt T.data.toList k) = false by rw [HPQ.out]; show capB q = _; rw [HCQ.out]; simp; omega)
                      go_wp2_with fail
                      refine Met.intro ?_
                      go_step
                      exact ⟨(by rw [HCL.out, HPC.out]; simpa using hBk), hck, HBTk.out, hbwk, ⟨rfl, rfl⟩, rfl, rfl, rfl, rfl, rfl, rfl, rfl, rfl, rfl, rfl, rfl, rfl, rfl, rfl, rfl, rfl, rfl⟩
                    · have HPC := Lib.hid (show prevCap (prevAt T.data.toList k) = true by rw [HPQ.out]; show capB q = _; rw [HCQ.out]; simp; omega)
                      go_wp2_with (go_at_call 39; (with_reducible refine (writeByte_c b c B d _ hBk hck hcb hBl1).mono ?_); rintro e w6 ⟨rfl, hB6, hb6, hc6⟩; dsimp only)
                      refine Met.intro ?_
                      go_step
                      exact ⟨(by rw [HCL.out, HPC.out]; exact hB6), Nat.lt_of_lt_of_le hck hb6.size, HBTk.out.keep hc6, hbwk.trans (hb6.mono hlt1), ⟨rfl, rfl⟩, rfl, rfl, rfl, rfl, rfl, rfl, rfl, rfl, rfl, rfl, rfl, rfl, rfl, rfl, rfl, rfl, rfl⟩
                    · have HPC := Lib.hid (show prevCap (prevAt T.data.toList k) = false by rw [HPQ.out]; show capB q = _; rw [HCQ.out]; simp; omega)
                      go_wp2_with fail
                      refine Met.intro ?_
                      go_step
                      exact ⟨(by rw [HCL.out, HPC.out]; simpa using hBk), hck, HBTk.out, hbwk, ⟨rfl, rfl⟩, rfl, rfl, rfl, rfl, rfl, rfl, rfl, rfl, rfl, rfl, rfl, rfl, rfl, rfl, rfl, rfl, rfl⟩
              case restm =>
              intro a wx hcut
              obtain ⟨hB8, hc8, hbt8, hbw8, hFr, hS0, hS1, hS2, hS3, hS9, hS10, hS11, hS12, hS13, hS14, hS15, hS16, hS17, hS18, hS29, hS30, hS31⟩ := hcut
              obtain ⟨f, hf, hA⟩ := lit201 a hFr
              rw [hf] at hS0 hS1 hS2 hS3 hS9 hS10 hS11 hS12 hS13 hS14 hS15 hS16 hS17 hS18 hS29 hS30 hS31
              rw [hS0, hS1, hS2, hS3, hS9, hS10, hS11, hS12, hS13, hS14, hS15, hS16, hS17, hS18, hS29, hS30, hS31] at hA
              clear hf hFr hS0 hS1 hS2 hS3 hS9 hS10 hS11 hS12 hS13 hS14 hS15 hS16 hS17 hS18 hS29 hS30 hS31
              subst hA
              have HBT8 := Lib.hid hbt8
              clear hbt8
              obtain ⟨B1, hB1⟩ : ∃ B1, B ++ (if capB x && lowB n && prevCap (prevAt T.data.toList k) then [d] else []) = B1 := ⟨_, rfl⟩
              rw [hB1] at hB8
              have hl8 : B1.length ≤ B.length + 1 := by rw [← hB1, List.length_append]; split <;> simp
              have HB1 := Lib.hid hB1
              clear hB1
              have hl81 : B1.length + 1 ≤ 140737488355328 := by omega
              go_wp2_with (go_at_call 39; (with_reducible refine (writeByte_c b c B1 v _ hB8 hc8 hcb hl81).mono ?_))
              rintro e w9 ⟨rfl, hB9, hb9, hc9⟩
              dsimp only
              have hc9' : c < w9.heap.size := Nat.lt_of_lt_of_le hc8 hb9.size
              have HBT9 := Lib.hid (HBT8.out.keep hc9)
              have hbw9 := hbw8.trans (hb9.mono hlt1)
              clear hc9
              have hl91 : (B1 ++ [v]).length + 1 ≤ 140737488355328 := by simp; omega
              go_upto_region 29 with fail
              refine wp_cut (fun a wx => w9 = wx ∧ Fr 201 a ∧ Sl a 0 = .string T ∧ Sl a 1 = .int .u8 (d.toNat : Int) ∧ Sl a 2 = .string ign ∧ Sl a 3 = .bool scr ∧ Sl a 9 = .pointer (some ⟨b, 0, none⟩) ∧ Sl a 10 = .int .i64 (k : Int) ∧ Sl a 11 = .int .u8 (v.toNat : Int) ∧ Sl a 12 = .bool (capB x) ∧ Sl a 13 = .bool (lowB x) ∧ Sl a 14 = .int .u8 (n.toNat : Int) ∧ Sl a 15 = .bool (numB x) ∧ Sl a 16 = .bool (capB n) ∧ Sl a 17 = .bool (lowB n) ∧ Sl a 18 = .bool (numB n) ∧ Sl a 29 = .slice (some ⟨c, 0, none⟩) T.size CAP ∧ Sl a 30 = .int .i64 (T.size : Int) ∧ Sl a 31 = .int .i64 (k : Int) ∧ Sl a 171 = .bool (lowB x || numB x || numB n)) ?restn ?firstn
              case firstn =>
                intro Jn Kn hJn hKn
                cases hl : lowB x <;> cases hm : numB x
                all_goals
                  go_wp2_with fail
                  refine Met.intro ?_
                  go_step
                  exact ⟨rfl, ⟨rfl, rfl⟩, rfl, rfl, rfl, rfl, rfl, rfl, rfl, rfl, congrArg Value.bool hl.symm, rfl, congrArg Value.bool hm.symm, rfl, rfl, rfl, rfl, rfl, rfl, congrArg Value.bool (by rw [hl, hm]; rfl)⟩
              case restn =>
              intro a wx hcut
              obtain ⟨rfl, hFr, hS0, hS1, hS2, hS3, hS9, hS10, hS11, hS12, hS13, hS14, hS15, hS16, hS17, hS18, hS29, hS30, hS31, hS171⟩ := hcut
              obtain ⟨f, hf, hA⟩ := lit201 a hFr
              rw [hf] at hS0 hS1 hS2 hS3 hS9 hS10 hS11 hS12 hS13 hS14 hS15 hS16 hS17 hS18 hS29 hS30 hS31 hS171
              rw [hS0, hS1, hS2, hS3, hS9, hS10, hS11, hS12, hS13, hS14, hS15, hS16, hS17, hS18, hS29, hS30, hS31, hS171] at hA
              clear hf hFr hS0 hS1 hS2 hS3 hS9 hS10 hS11 hS12 hS13 hS14 hS15 hS16 hS17 hS18 hS29 hS30 hS31 hS171
              subst hA
              have HEQ := Lib.hid (show dgo d ign.data.toList scr (prevAt T.data.toList k) (T.data.toList.drop k) = (if capB x && lowB n && prevCap (prevAt T.data.toList k) then [d] else []) ++ v :: (if lowB x || numB x || numB n then [d] else []) ++ dgo d ign.data.toList scr (prevAt T.data.toList (k + 1)) (T.data.toList.drop (k + 1)) by rw [dgo_at _ _ _ _ _ _ HXL.out, HNX.out, outB_bord _ _ _ _ _ _ _ HV.out (by rw [HBO.out, HPI.out]; rfl)])
              cases hpo : lowB x || numB x || numB n with
              | false =>
                have HPO := Lib.hid hpo
                clear hpo
                go_wp2_with fail
                refine Handed.intro (T.size - (k + 1)) (by omega) ?_
                go_step
                exact ⟨k + 1, B1 ++ [v], by omega, rfl, hB9, hc9', HBT9.out, hbw9, (by simp; omega), (by have := HA.out; rw [HEQ.out, HPO.out] at this; rw [← HB1.out]; simpa using this), ⟨rfl, rfl⟩, rfl, rfl, rfl, rfl, rfl, rfl, rfl, congrArg (Value.int .i64) (by omega)⟩
              | true =>
                have HPO := Lib.hid hpo
                clear hpo
                go_wp2_with (go_at_call 39; (with_reducible refine (writeByte_c b c (B1 ++ [v]) d _ hB9 hc9' hcb hl91).mono ?_); rintro e w10 ⟨rfl, hB10, hb10, hc10⟩; dsimp only)
                refine Handed.intro (T.size - (k + 1)) (by omega) ?_
                go_step
                exact ⟨k + 1, B1 ++ [v] ++ [d], by omega, rfl, hB10, Nat.lt_of_lt_of_le hc9' hb10.size, HBT9.out.keep hc10, hbw9.trans (hb10.mono hlt1), (by simp; omega), (by have := HA.out; rw [HEQ.out, HPO.out] at this; rw [← HB1.out]; simpa using this), ⟨rfl, rfl⟩, rfl, rfl, rfl, rfl, rfl, rfl, rfl, congrArg (Value.int .i64) (by omega)⟩
        · have hnz : ¬ (k : Int) + 1 < (T.size : Int) := by omega
          go_wp2_with fail
          refine Met.intro ?_
          go_step
          exact ⟨Below.refl _ _, (by rw [List.getElem?_eq_none (by rw [← Lib.size_eq]; omega)]; show tailO d ign.data.toList (trn scr x) = _; rw [HV.out]), ⟨rfl, rfl⟩, rfl, rfl, rfl, rfl, rfl, rfl, rfl, rfl, rfl, rfl, rfl, rfl⟩
      case restE =>
      intro a wx hcut
      obtain ⟨hbx, hout, hFr, hS0, hS1, hS2, hS3, hS9, hS10, hS11, hS12, hS13, hS29, hS30, hS31⟩ := hcut
      obtain ⟨f, hf, hA⟩ := lit201 a hFr
      rw [hf] at hS0 hS1 hS2 hS3 hS9 hS10 hS11 hS12 hS13 hS29 hS30 hS31
      rw [hS0, hS1, hS2, hS3, hS9, hS10, hS11, hS12, hS13, hS29, hS30, hS31] at hA
      clear hf hFr hS0 hS1 hS2 hS3 hS9 hS10 hS11 hS12 hS13 hS29 hS30 hS31
      subst hA
      have HOUT := Lib.hid hout
      clear hout
      have hs1 : (Utf8.encode (v.toNat : Int)).size ≤ 2147483647 := enc_le _
      obtain ⟨wy, hwy⟩ : ∃ wy : World, wy = wx := ⟨_, rfl⟩
      subst hwy
      go_upto_region 31 with fail
      refine wp_cut (fun a wx => Below wr.heap.size wr wx ∧ Fr 201 a ∧ Sl a 0 = .string T ∧ Sl a 1 = .int .u8 (d.toNat : Int) ∧ Sl a 2 = .string ign ∧ Sl a 3 = .bool scr ∧ Sl a 9 = .pointer (some ⟨b, 0, none⟩) ∧ Sl a 10 = .int .i64 (k : Int) ∧ Sl a 11 = .int .u8 (v.toNat : Int) ∧ Sl a 12 = .bool (capB x) ∧ Sl a 13 = .bool (lowB x) ∧ Sl a 29 = .slice (some ⟨c, 0, none⟩) T.size CAP ∧ Sl a 30 = .int .i64 (T.size : Int) ∧ Sl a 31 = .int .i64 (k : Int) ∧ Sl a 194 = .bool (sepB v && !hasB ign.data.toList v)) ?resto ?firsto
      case firsto =>
        intro Jo Ko hJo hKo
        rcases sep5 v with ⟨hv, hsv, e1⟩ | ⟨hv, hsv, e1, e2⟩ | ⟨hv, hsv, e1, e2, e3⟩ | ⟨hv, hsv, e1, e2, e3, e4⟩ | ⟨hsv, e1, e2, e3, e4⟩
        · have HSV := Lib.hid hsv
          clear hsv hv
          cases hpq : hasB ign.data.toList v
          all_goals
            have HCon := Lib.hid (fun w => containsAny_any (Utf8.encode (v.toNat : Int)) ign w hs1 hi _ (show anyA (Utf8.encode (v.toNat : Int)).data.toList ign.data.toList = _ by rw [encode_list, anyA_byte, hpq]))
            have HPB := Lib.hid hpq
            clear hpq
            go_wp2_with (go_at_call 38; (with_reducible refine (HCon.out _).mono ?_); rintro e w5 ⟨rfl, hb5⟩; dsimp only)
            refine Met.intro ?_
            go_step
            exact ⟨bthen hbx hb5, ⟨rfl, rfl⟩, rfl, rfl, rfl, rfl, rfl, rfl, rfl, rfl, rfl, rfl, rfl, rfl, congrArg Value.bool (by rw [HSV.out, HPB.out]; rfl)⟩
        · have HSV := Lib.hid hsv
          clear hsv hv
          cases hpq : hasB ign.data.toList v
          all_goals
            have HCon := Lib.hid (fun w => containsAny_any (Utf8.encode (v.toNat : Int)) ign w hs1 hi _ (show anyA (Utf8.encode (v.toNat : Int)).data.toList ign.data.toList = _ by rw [encode_list, anyA_byte, hpq]))
            have HPB := Lib.hid hpq
            clear hpq
            go_wp2_with (go_at_call 38; (with_reducible refine (HCon.out _).mono ?_); rintro e w5 ⟨rfl, hb5⟩; dsimp only)
            refine Met.intro ?_
            go_step
            exact ⟨bthen hbx hb5, ⟨rfl, rfl⟩, rfl, rfl, rfl, rfl, rfl, rfl, rfl, rfl, rfl, rfl, rfl, rfl, congrArg Value.bool (by rw [HSV.out, HPB.out]; rfl)⟩
        · have HSV := Lib.hid hsv
          clear hsv hv
          cases hpq : hasB ign.data.toList v
          all_goals
            have HCon := Lib.hid (fun w => containsAny_any (Utf8.encode (v.toNat : Int)) ign w hs1 hi _ (show anyA (Utf8.encode (v.toNat : Int)).data.toList ign.data.toList = _ by rw [encode_list, anyA_byte, hpq]))
            have HPB := Lib.hid hpq
            clear hpq
            go_wp2_with (go_at_call 38; (with_reducible refine (HCon.out _).mono ?_); rintro e w5 ⟨rfl, hb5⟩; dsimp only)
            refine Met.intro ?_
            go_step
            exact ⟨bthen hbx hb5, ⟨rfl, rfl⟩, rfl, rfl, rfl, rfl, rfl, rfl, rfl, rfl, rfl, rfl, rfl, rfl, congrArg Value.bool (by rw [HSV.out, HPB.out]; rfl)⟩
        · have HSV := Lib.hid hsv
          clear hsv hv
          cases hpq : hasB ign.data.toList v
          all_goals
            have HCon := Lib.hid (fun w => containsAny_any (Utf8.encode (v.toNat : Int)) ign w hs1 hi _ (show anyA (Utf8.encode (v.toNat : Int)).data.toList ign.data.toList = _ by rw [encode_list, anyA_byte, hpq]))
            have HPB := Lib.hid hpq
            clear hpq
            go_wp2_with (go_at_call 38; (with_reducible refine (HCon.out _).mono ?_); rintro e w5 ⟨rfl, hb5⟩; dsimp only)
            refine Met.intro ?_
            go_step
            exact ⟨bthen hbx hb5, ⟨rfl, rfl⟩, rfl, rfl, rfl, rfl, rfl, rfl, rfl, rfl, rfl, rfl, rfl, rfl, congrArg Value.bool (by rw [HSV.out, HPB.out]; rfl)⟩
        · have HSV := Lib.hid hsv
          clear hsv
          go_wp2_with fail
          refine Met.intro ?_
          go_step
          exact ⟨hbx, ⟨rfl, rfl⟩, rfl, rfl, rfl, rfl, rfl, rfl, rfl, rfl, rfl, rfl, rfl, rfl, congrArg Value.bool (by rw [HSV.out]; rfl)⟩
      case resto =>
      intro a wx hcut
      obtain ⟨hbz, hFr, hS0, hS1, hS2, hS3, hS9, hS10, hS11, hS12, hS13, hS29, hS30, hS31, hS194⟩ := hcut
      obtain ⟨f, hf, hA⟩ := lit201 a hFr
      rw [hf] at hS0 hS1 hS2 hS3 hS9 hS10 hS11 hS12 hS13 hS29 hS30 hS31 hS194
      rw [hS0, hS1, hS2, hS3, hS9, hS10, hS11, hS12, hS13, hS29, hS30, hS31, hS194] at hA
      clear hf hFr hS0 hS1 hS2 hS3 hS9 hS10 hS11 hS12 hS13 hS29 hS30 hS31 hS194
      subst hA
      have hBz := hB.below hbz
      have hcz : c < wx.heap.size := Nat.lt_of_lt_of_le hcw hbz.size
      have HBTz := Lib.hid (HBT.out.keep (hbz.block c hcw))
      have hbwz : Below w.heap.size w wx := bthen hbw hbz
      have hBl1 : B.length + 1 ≤ 140737488355328 := by omega
      clear hs1
      cases htl : (sepB v && !hasB ign.data.toList v)
      · have HTL := Lib.hid htl
        clear htl
        go_wp2_with (go_at_call 39; (with_reducible refine (writeByte_c b c B v _ hBz hcz hcb hBl1).mono ?_); rintro e w6 ⟨rfl, hB6, hb6, hc6⟩; dsimp only)
        refine Handed.intro (T.size - (k + 1)) (by omega) ?_
        go_step
        exact ⟨k + 1, B ++ [v], by omega, rfl, hB6, Nat.lt_of_lt_of_le hcz hb6.size, HBTz.out.keep hc6, hbwz.trans (hb6.mono hlt1), (by simp; omega), (by have := HA.out; rw [dgo_at _ _ _ _ _ _ HXL.out, HOUT.out, tailO, HTL.out] at this; simpa using this), ⟨rfl, rfl⟩, rfl, rfl, rfl, rfl, rfl, rfl, rfl, congrArg (Value.int .i64) (by omega)⟩
      · have HTL := Lib.hid htl
        clear htl
        go_wp2_with (go_at_call 39; (with_reducible refine (writeByte_c b c B d _ hBz hcz hcb hBl1).mono ?_); rintro e w6 ⟨rfl, hB6, hb6, hc6⟩; dsimp only)
        refine Handed.intro (T.size - (k + 1)) (by omega) ?_
        go_step
        exact ⟨k + 1, B ++ [d], by omega, rfl, hB6, Nat.lt_of_lt_of_le hcz hb6.size, HBTz.out.keep hc6, hbwz.trans (hb6.mono hlt1), (by simp; omega), (by have := HA.out; rw [dgo_at _ _ _ _ _ _ HXL.out, HOUT.out, tailO, HTL.out] at this; simpa using this), ⟨rfl, rfl⟩, rfl, rfl, rfl, rfl, rfl, rfl, rfl, congrArg (Value.int .i64) (by omega)⟩
    · have hkz : ¬ (k : Int) < (T.size : Int) := by omega
      have hbb := hB.isB
      have hbl := hB.lt
      go_wp2_with (go_at_call 40; (with_reducible refine (string_any b B _ hbb hbl).mono ?_); rintro e w9 ⟨rfl, -, hb9, -⟩; dsimp only)
      go_ret
      have hfin := HA.out
      rw [List.drop_eq_nil_of_le (by rw [← Lib.size_eq]; omega)] at hfin
      have hfin2 : B = ALL := by simpa [dgo] using hfin
      exact ⟨ret_str (by rw [hfin2]), hbw.trans (hb9.mono hlt1)⟩
end Go.Proofs.YtpbehdlgmpmkaaaDoor
