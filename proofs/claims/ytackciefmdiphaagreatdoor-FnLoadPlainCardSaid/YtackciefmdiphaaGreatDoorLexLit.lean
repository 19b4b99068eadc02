/- The lexer's scanUnicodeLiteral: four hexadecimal digits. -/
import Derived.Test.YtackciefmdiphaaGreatDoorLexHex
import Derived.Deep.OwnRows
set_option linter.unusedVariables false
namespace Go.Proofs.YtackciefmdiphaaGreatDoor
open Go.RowKit Plain

theorem nextYK_at (B lb pos start : Nat) (s : ByteArray) (rs : List Nat) (its : List LI) (w : World) (h : LY B lb s pos start rs its w) (hs : s.size ≤ 2147483647) (hp : pos < s.size) (hT : TabsL B w) (R K : Nat) (hR : rAt s pos = R) (hK : kAt s pos = K) :
    Calls Tryz.prog 114 #[.pointer (some ⟨lb, 0, none⟩)] w (NextPostK B lb s start rs its (R : Int) (pos + K) K w) := by
  have hB := h.lt
  obtain ⟨wd, h⟩ := h
  exact next_atK B lb pos start wd s rs its w h hB hs hp hT R K hR hK
theorem nextYK_end (B lb pos start : Nat) (s : ByteArray) (rs : List Nat) (its : List LI) (w : World) (h : LY B lb s pos start rs its w) (hs : s.size ≤ 2147483647) (hp : ¬ pos < s.size) (hp2 : pos ≤ s.size) :
    Calls Tryz.prog 114 #[.pointer (some ⟨lb, 0, none⟩)] w (NextPostK B lb s start rs its (-1) pos 0 w) := by
  have hB := h.lt
  obtain ⟨wd, h⟩ := h
  exact next_endK B lb pos start wd s rs its w h hB hs hp hp2
/-- a new error with a text -/
def NewErr (q : ByteArray) (w : World) (e : Ending) (w' : World) : Prop := ∃ N : Nat, e = .returned (.iface 194 (.pointer (some ⟨N, 0, none⟩))) ∧ w'.cell? ⟨N, 0, none⟩ = some (.string q) ∧ Below w.heap.size w w'
theorem newErr_any (q : ByteArray) (w : World) : Calls Tryz.prog 111 #[.string q] w (NewErr q w) := by
  unfold NewErr
  go_enter Tryz.func111, Tryz.ntmps111
  go_wp2
  go_ret
  exact ⟨w.heap.size, rfl, by rw [World.cell?_alloc_new]; rfl, (Below.refl _ w).alloc (Nat.le_refl _) _⟩
def hexN (xs : List Nat) : Nat := xs.foldl (fun a r => 16 * a + (hexR r).getD 0) 0
theorem hexN_snoc (xs : List Nat) (r : Nat) : hexN (xs ++ [r]) = 16 * hexN xs + (hexR r).getD 0 := by simp [hexN]
def AllHex (xs : List Nat) : Prop := ∀ r ∈ xs, hexB r = true
theorem hexB_rng {R : Nat} (h : hexB R = true) : (48 ≤ R ∧ R ≤ 57) ∨ (97 ≤ R ∧ R ≤ 102) ∨ (65 ≤ R ∧ R ≤ 70) := by
  unfold hexB hexR at h
  (repeat' split at h) <;> simp at h <;> omega
theorem hexB_of {R : Nat} (h : (48 ≤ R ∧ R ≤ 57) ∨ (97 ≤ R ∧ R ≤ 102) ∨ (65 ≤ R ∧ R ≤ 70)) : hexB R = true := by
  unfold hexB hexR
  rcases h with h | h | h
  · rw [if_pos h]; rfl
  · rw [if_neg (by omega), if_pos h]; rfl
  · rw [if_neg (by omega), if_neg (by omega), if_pos h]; rfl
theorem z_hex (R : Nat) (w : World) (hR : RuneR R) (b : Bool) (hb : hexB R = b) :
    Calls Tryz.prog 126 #[.string ⟨#[48, 49, 50, 51, 52, 53, 54, 55, 56, 57, 97, 98, 99, 100, 101, 102, 65, 66, 67, 68, 69, 70]⟩, .int .i32 (R : Int)] w fun e w' => e = .returned (.bool b) ∧ Below w.heap.size w w' := by
  refine zc_rune _ R w hR (by decide) b ?_
  rw [ziF_has _ R (by decide), ← hb]
  show hasB [48, 49, 50, 51, 52, 53, 54, 55, 56, 57, 97, 98, 99, 100, 101, 102, 65, 66, 67, 68, 69, 70] R = _
  rw [Bool.eq_iff_iff]
  constructor
  · intro h
    unfold hasB at h
    simp at h
    exact hexB_of (by omega)
  · intro h
    have := hexB_rng h
    unfold hasB
    simp
    omega
theorem text_hex (xs : List Nat) (h : AllHex xs) : (textOf xs).data.toList = xs.map UInt8.ofNat ∧ IsHex (textOf xs).data.toList ∧ hexF (textOf xs).data.toList = hexN xs := by
  have e1 : (textOf xs).data.toList = xs.map UInt8.ofNat := by
    unfold textOf
    rw [List.toList_toArray]
    induction xs with
    | nil => rfl
    | cons r xs ih =>
      have hr := hexB_rng (h r List.mem_cons_self)
      have e2 : Lib.encodeRune (r : Int) = [UInt8.ofNat r] := by
        have key : ∀ X : Fin 128, Lib.encodeRune ((X.val : Nat) : Int) = [UInt8.ofNat X.val] := by decide +kernel
        exact key ⟨r, by omega⟩
      rw [List.map_cons, List.flatten_cons, ih (fun r' h' => h r' (List.mem_cons_of_mem _ h')), e2]
      rfl
  have hto : ∀ r ∈ xs, (UInt8.ofNat r).toNat = r := fun r hr => by
    have := hexB_rng (h r hr)
    rw [UInt8.toNat_ofNat']
    omega
  refine ⟨e1, ?_, ?_⟩
  · rw [e1]
    intro b hb
    obtain ⟨r, hr, rfl⟩ := List.mem_map.1 hb
    rw [hto r hr]
    exact hexB_rng (h r hr)
  · rw [e1]
    unfold hexF hexN
    rw [List.foldl_map]
    have : ∀ (ys : List Nat) (a : Nat), (∀ r ∈ ys, (UInt8.ofNat r).toNat = r) → List.foldl (fun x y => 16 * x + digV (UInt8.ofNat y)) a ys = List.foldl (fun a r => 16 * a + (hexR r).getD 0) a ys := by
      intro ys
      induction ys with
      | nil => intro a _; rfl
      | cons y ys ih =>
        intro a hy
        rw [List.foldl_cons, List.foldl_cons]
        have : digV (UInt8.ofNat y) = (hexR y).getD 0 := by unfold digV; rw [hy y List.mem_cons_self]
        rw [this]
        exact ih _ (fun r hr => hy r (List.mem_cons_of_mem _ hr))
    exact this xs 0 hto
abbrev litMsg : ByteArray := ⟨#[105, 110, 118, 97, 108, 105, 100, 32, 117, 110, 105, 99, 111, 100, 101, 32, 108, 105, 116, 101, 114, 97, 108]⟩
/-- what a scan leaves: the rune behind the others; or an error with its text -/
def ScanPost (B lb : Nat) (s : ByteArray) (start : Nat) (rs : List Nat) (its : List LI) (o : Option (Nat × Nat)) (msg : ByteArray) (w : World) (e : Ending) (w' : World) : Prop :=
  match o with
  | some x => e = .returned .nilIface ∧ LY B lb s x.2 start (rs ++ [x.1]) its w' ∧ Below B w w'
  | none => ∃ N q : Nat, e = .returned (.iface 194 (.pointer (some ⟨N, 0, none⟩))) ∧ w'.cell? ⟨N, 0, none⟩ = some (.string msg) ∧ LY B lb s q start rs its w' ∧ Below B w w'
theorem mk4 (w : World) : (Instr.makeSlice 113 (.int .i64 4) (.int .i64 4)).run Tryz.prog w = .ok (.slice (some ⟨w.heap.size, 0, none⟩) 4 4) (w.alloc (.cells #[.int .i32 0, .int .i32 0, .int .i32 0, .int .i32 0] 21)) := by
  have h := Go.run_make_row' (P := Tryz.prog) 113 21 (.int .i32 0) 4 Tryz.underlying113 infoRune rfl .i64 .i64 4 (by decide) (by decide) w
  rw [show madeCells #[Value.int .i32 0] 4 = #[.int .i32 0, .int .i32 0, .int .i32 0, .int .i32 0] by kernel_rfl] at h
  exact h
theorem lxC_inj {s : ByteArray} {st st' rv rv' iv iv' : Value} {p p' a a' b b' : Nat} {lp lp' : Int} (h : some (lxC s st p a b lp rv iv) = some (lxC s st' p' a' b' lp' rv' iv')) : st = st' ∧ lp = lp' ∧ rv = rv' ∧ iv = iv' := by
  simp only [lxC, Option.some.injEq, Obj.cells.injEq, Array.mk.injEq, List.cons.injEq, Value.int.injEq] at h
  simp_all
/-- a row of four runes -/
def Row4 (g : Nat) (xs : List Nat) (w : World) : Prop := w.heap[g]? = some (.cells (xs.map rcell ++ List.replicate (4 - xs.length) (Value.int .i32 0)).toArray 21 (0, 0))
theorem Row4.cell {g i : Nat} {xs : List Nat} {w : World} (h : Row4 g xs w) (hi : i < 4) (hl : xs.length = i) : w.cell? ⟨g, i, none⟩ = some (.int .i32 0) ∧ w.frozen? ⟨g, i, none⟩ = false := by
  unfold Row4 at h
  constructor
  · unfold World.cell?
    rw [h]
    obtain ⟨m, hm⟩ : ∃ m, 4 - i = m + 1 := ⟨3 - i, by omega⟩
    simp [hl, hm]
  · unfold World.frozen?
    rw [h]
    simp
theorem Row4.store {g : Nat} {xs : List Nat} {w : World} (h : Row4 g xs w) (hi : xs.length < 4) (r : Nat) : Row4 g (xs ++ [r]) (w.setCell ⟨g, xs.length, none⟩ (.int .i32 (r : Int))) := by
  unfold Row4 at h ⊢
  rw [lx_set h]
  congr 2
  apply Array.toList_inj.1
  simp only [Array.toList_setIfInBounds, List.map_append, List.length_append]
  rw [List.set_append_right _ _ (by simp)]
  obtain ⟨m, hm⟩ : ∃ m, 4 - xs.length = m + 1 := ⟨3 - xs.length, by omega⟩
  have hm2 : 4 - (xs.length + [r].length) = m := by simp; omega
  rw [hm, hm2]
  simp [List.replicate_succ, rcell]
set_option maxRecDepth 100000 in
theorem row4_conv {g : Nat} {xs : List Nat} {w : World} (h : Row4 g xs w) (hl : xs.length = 4) : (convert 113 9 (.slice (some ⟨g, 0, none⟩) 4 4)).run Tryz.prog w = .ok (.string (textOf xs)) w := by
  have hr := run_convert_runes (P := Tryz.prog) w 113 9 21 ⟨g, 0, none⟩ 4 4 (xs.map fun (n : Nat) => (n : Int)) (by simp [hl]) Tryz.underlying113 Tryz.underlying21 Tryz.underlying9 (fun j hj => by
    have hjl : j < xs.length := by simpa using hj
    rw [add_at, Nat.zero_add]
    unfold Row4 at h
    unfold World.cell?
    rw [h]
    simp [List.getElem?_append, hjl, rcell, List.getD])
  rw [hr, List.take_of_length_le (by simp [hl])]
  congr 2
  have := runesBytes_list xs
  unfold textOf
  rw [← this]
set_option maxHeartbeats 8000000 in
set_option maxRecDepth 100000 in
theorem lit_any (B lb pos start : Nat) (s : ByteArray) (rs : List Nat) (its : List LI) (w : World) (h : LY B lb s pos start rs its w) (hs : s.size ≤ 2147483647) (hp2 : pos ≤ s.size) (hT : TabsL B w) (hn : rs.length ≤ 2147483647) (o : Option (Nat × Nat)) (ho : hexs s 4 pos 0 = o) :
    Calls Tryz.prog 154 #[.pointer (some ⟨lb, 0, none⟩)] w (ScanPost B lb s start rs its o litMsg w) := by
  have HH := Lib.hid h
  have HO := Lib.hid ho
  clear h ho
  go_enter Tryz.func154, Tryz.ntmps154
  have hmk := mk4
  obtain ⟨D, hD⟩ : ∃ D, w.heap.size = D := ⟨_, rfl⟩
  obtain ⟨wd0, hx0⟩ := HH.out
  have hlD : lb < D := hD ▸ hx0.lt
  obtain ⟨⟨st, lp, rv, iv, g1, g2, g3, g4⟩, g5⟩ := hx0
  have g2lt := fun g hg => (row_lt g2 (g := g) hg).2
  have g3lt := fun g hg => (row_lt g3 (g := g) hg).2
  have hBD : B ≤ D := Nat.le_trans g5 (Nat.le_of_lt hlD)
  obtain ⟨W0, hW0⟩ : ∃ W0, w.alloc (.cells #[.int .i32 0, .int .i32 0, .int .i32 0, .int .i32 0] 21) = W0 := ⟨_, rfl⟩
  have hb0 : Below w.heap.size w W0 := hW0 ▸ (Below.refl _ w).alloc (Nat.le_refl _) _
  have HR0 : Hid (Row4 D [] W0) := Lib.hid (by rw [← hD, ← hW0]; exact heap_alloc_new w _)
  -- the lexer in a later world
  have HG : Hid (∀ (p wd : Nat) (W : World), W.heap[lb]? = some (lxC s st p start wd lp rv iv) → (∀ j, j < D → j ≠ lb → W.heap[j]? = w.heap[j]?) → LX B lb s p start wd rs its W) := Lib.hid (fun p wd W hw hk => by
    refine ⟨⟨st, lp, rv, iv, hw, row_keep g2 (fun g hg => hk g (hD ▸ g2lt g hg) (fun e => ?_)), row_keep g3 (fun g hg => hk g (hD ▸ g3lt g hg) (fun e => ?_)), g4⟩, g5⟩
    · exact row_ne g2 g1 (by decide) (by rw [hg, e])
    · exact row_ne g3 g1 (by decide) (by rw [hg, e]))
  have HS0 : Hid (W0.heap[lb]? = some (lxC s st pos start wd0 lp rv iv) ∧ (∀ j, j < D → j ≠ lb → W0.heap[j]? = w.heap[j]?) ∧ D < W0.heap.size) := Lib.hid ⟨(hb0.block lb (by omega)).trans g1, fun j hj _ => hb0.block j (by omega), by rw [← hW0, ← hD]; simp⟩
  have HB0 : Hid (Below B w W0) := Lib.hid (hb0.mono (by omega))
  clear hb0 g1 g2 g3 g4 g2lt g3lt
  go_wp2
  try rw [hW0, hD]
  clear hW0
  go_loopg [4] 4 (fun g iv' wr => ∃ (i p wd : Nat) (xs : List Nat), iv' = .int .i64 i ∧ i ≤ 4 ∧ g = 4 - i ∧ Hid (xs.length = i) ∧ Hid (AllHex xs) ∧ p ≤ s.size ∧ Hid (Below B w wr) ∧ Hid (Row4 D xs wr) ∧ Hid (hexs s (4 - i) p (hexN xs) = o) ∧ Hid (wr.heap[lb]? = some (lxC s st p start wd lp rv iv) ∧ (∀ j, j < D → j ≠ lb → wr.heap[j]? = w.heap[j]?) ∧ D < wr.heap.size))
  case atStart => exact ⟨0, pos, wd0, [], rfl, by omega, rfl, Lib.hid rfl, Lib.hid (fun r hr => by cases hr), hp2, HB0, HR0, HO, HS0⟩
  case round =>
    obtain ⟨i, p, wd, xs, rfl, hi, rfl, HXL, HAH, hp, HB, HR, HE, HS⟩ := hrel
    have hTr := hT.below HB.out
    by_cases hi4 : i < 4
    · have hiz : (i : Int) < 4 := by omega
      have hY : LY B lb s p start rs its wr := ⟨wd, HG.out p wd wr HS.out.1 HS.out.2.1⟩
      have hE := HE.out
      obtain ⟨m, hm⟩ : ∃ m, 4 - i = m + 1 := ⟨3 - i, by omega⟩
      have hm2 : 4 - (i + 1) = m := by omega
      rw [hm, hexs] at hE
      by_cases hlt : p < s.size
      · obtain ⟨R, hR⟩ : ∃ R, rAt s p = R := ⟨_, rfl⟩
        obtain ⟨K, hK⟩ : ∃ K, kAt s p = K := ⟨_, rfl⟩
        have hok := rAt_ok s p
        have hk := kAt_pos s p hlt
        rw [if_pos hlt, hR, hK] at hE
        rw [hR] at hok
        rw [hK] at hk
        have HN := Lib.hid (nextYK_at B lb p start s rs its wr hY hs hlt hTr R K hR hK)
        have hm1 : ((R : Int) == -1) = false := by rw [beq_eq_false_iff_ne]; omega
        cases hh : hexB R with
        | true =>
          have HZ := Lib.hid (fun w => z_hex R w hok true hh)
          have HE2 : Hid (hexs s m (p + K) (hexN (xs ++ [R])) = o) := Lib.hid (by
            rw [hexN_snoc]
            unfold hexB at hh
            cases hv : hexR R with
            | none => rw [hv] at hh; cases hh
            | some v => rw [hv] at hE; exact hE)
          have HA2 : Hid (AllHex (xs ++ [R])) := Lib.hid (fun r hr => by
            rcases List.mem_append.1 hr with h | h
            · exact HAH.out r h
            · simp at h; subst h; exact hh)
          clear hE hR hK hok hY hTr hh
          go_wp2_with (go_at_call 114; (with_reducible refine HN.out.mono ?_); rintro e w1 ⟨⟨rfl, hx, hb1⟩, hk1, st', p0, w0, lp', rv', iv', ha1, ha2⟩; obtain ⟨rfl, rfl, rfl, rfl⟩ := lxC_inj (HS.out.1.symm.trans ha1); have r1 : Row4 D xs w1 := (hk1.2 D HS.out.2.2 (by omega)).trans HR.out; obtain ⟨cD, fD⟩ := r1.cell hi4 HXL.out; have HX1 : Hid (w1.heap[lb]? = _) := Lib.hid ha2; have HK1 : Hid (∀ j, j < D → j ≠ lb → w1.heap[j]? = w.heap[j]?) := Lib.hid (fun j hj hn => (hk1.2 j (Nat.lt_trans hj HS.out.2.2) hn).trans (HS.out.2.1 j hj hn)); have HD1 : Hid (D < w1.heap.size) := Lib.hid (Nat.lt_of_lt_of_le HS.out.2.2 hk1.1); have HB1 := Lib.hid (HB.out.trans hb1); have HR1 := Lib.hid r1; clear hx hb1 hk1 ha1 ha2 r1; obtain ⟨W2, hW2⟩ : ∃ W2, w1.setCell ⟨D, i, none⟩ (.int .i32 (R : Int)) = W2 := ⟨_, rfl⟩; have e2 : W2.cell? ⟨D, i, none⟩ = some (.int .i32 (R : Int)) := (by rw [← hW2]; exact World.cell?_setCell_same' w1 ⟨D, i, none⟩ _ (by simp [cD])); dsimp only)
          have HX2 : Hid (W2.heap[lb]? = some (lxC s st (p + K) start K lp rv iv)) := Lib.hid (by rw [← hW2]; exact (Below.heap_setCell _ _ _ _ (by show lb ≠ D; omega)).trans HX1.out)
          have HK2 : Hid (∀ j, j < D → j ≠ lb → W2.heap[j]? = w.heap[j]?) := Lib.hid (fun j hj hn => by rw [← hW2]; exact (Below.heap_setCell _ _ _ _ (by show j ≠ D; omega)).trans (HK1.out j hj hn))
          have HD2 : Hid (D < W2.heap.size) := Lib.hid (by rw [← hW2]; simpa [World.setCell] using HD1.out)
          have HB2 : Hid (Below B w W2) := Lib.hid (by rw [← hW2]; exact HB1.out.setCell (p := ⟨D, i, none⟩) hBD _)
          have HR2 : Hid (Row4 D (xs ++ [R]) W2) := Lib.hid (by rw [← hW2, ← HXL.out]; exact HR1.out.store (by rw [HXL.out]; exact hi4) R)
          go_wp2_with (go_at_call 126; (with_reducible refine (HZ.out _).mono ?_); rintro e w3 ⟨rfl, hb3⟩; dsimp only)
          have HX3 : Hid (w3.heap[lb]? = _) := Lib.hid ((hb3.block lb (Nat.lt_trans hlD HD2.out)).trans HX2.out)
          have HK3 : Hid (∀ j, j < D → j ≠ lb → w3.heap[j]? = w.heap[j]?) := Lib.hid (fun j hj hn => (hb3.block j (Nat.lt_trans hj HD2.out)).trans (HK2.out j hj hn))
          have HD3 : Hid (D < w3.heap.size) := Lib.hid (Nat.lt_of_lt_of_le HD2.out hb3.size)
          have HB3 : Hid (Below B w w3) := Lib.hid (HB2.out.trans (hb3.mono (Nat.le_of_lt (Nat.lt_of_le_of_lt hBD HD2.out))))
          have HR3 : Hid (Row4 D (xs ++ [R]) w3) := Lib.hid ((hb3.block D HD2.out).trans HR2.out)
          clear hb3 e2 cD fD hW2
          go_wp2
          go_roundg (4 - (i + 1))
          case measure => omega
          case rel => exact ⟨i + 1, p + K, K, xs ++ [R], by go_num, by omega, rfl, Lib.hid (by simp [HXL.out]), HA2, hk.2, HB3, HR3, Lib.hid (by rw [hm2]; exact HE2.out), Lib.hid ⟨HX3.out, HK3.out, HD3.out⟩⟩
        | false =>
          have hon : none = o := by
            unfold hexB at hh
            cases hv : hexR R with
            | none => rw [hv] at hE; exact hE
            | some v => rw [hv] at hh; cases hh
          subst hon
          unfold ScanPost
          have HZ := Lib.hid (fun w => z_hex R w hok false hh)
          have HNE := Lib.hid (fun w => newErr_any litMsg w)
          clear hE hR hK hok hY hTr hh
          go_wp2_with (go_at_call 114; (with_reducible refine HN.out.mono ?_); rintro e w1 ⟨⟨rfl, hx, hb1⟩, hk1, st', p0, w0, lp', rv', iv', ha1, ha2⟩; obtain ⟨rfl, rfl, rfl, rfl⟩ := lxC_inj (HS.out.1.symm.trans ha1); have r1 : Row4 D xs w1 := (hk1.2 D HS.out.2.2 (by omega)).trans HR.out; obtain ⟨cD, fD⟩ := r1.cell hi4 HXL.out; have HX1 : Hid (w1.heap[lb]? = _) := Lib.hid ha2; have HK1 : Hid (∀ j, j < D → j ≠ lb → w1.heap[j]? = w.heap[j]?) := Lib.hid (fun j hj hn => (hk1.2 j (Nat.lt_trans hj HS.out.2.2) hn).trans (HS.out.2.1 j hj hn)); have HD1 : Hid (D < w1.heap.size) := Lib.hid (Nat.lt_of_lt_of_le HS.out.2.2 hk1.1); have HB1 := Lib.hid (HB.out.trans hb1); have HR1 := Lib.hid r1; clear hx hb1 hk1 ha1 ha2 r1; obtain ⟨W2, hW2⟩ : ∃ W2, w1.setCell ⟨D, i, none⟩ (.int .i32 (R : Int)) = W2 := ⟨_, rfl⟩; have e2 : W2.cell? ⟨D, i, none⟩ = some (.int .i32 (R : Int)) := (by rw [← hW2]; exact World.cell?_setCell_same' w1 ⟨D, i, none⟩ _ (by simp [cD])); dsimp only)
          have HX2 : Hid (W2.heap[lb]? = some (lxC s st (p + K) start K lp rv iv)) := Lib.hid (by rw [← hW2]; exact (Below.heap_setCell _ _ _ _ (by show lb ≠ D; omega)).trans HX1.out)
          have HK2 : Hid (∀ j, j < D → j ≠ lb → W2.heap[j]? = w.heap[j]?) := Lib.hid (fun j hj hn => by rw [← hW2]; exact (Below.heap_setCell _ _ _ _ (by show j ≠ D; omega)).trans (HK1.out j hj hn))
          have HD2 : Hid (D < W2.heap.size) := Lib.hid (by rw [← hW2]; simpa [World.setCell] using HD1.out)
          have HB2 : Hid (Below B w W2) := Lib.hid (by rw [← hW2]; exact HB1.out.setCell (p := ⟨D, i, none⟩) hBD _)
          go_wp2_with (go_at_call 126; (with_reducible refine (HZ.out _).mono ?_); rintro e w3 ⟨rfl, hb3⟩; dsimp only)
          have HXL3 := Lib.hid ((hb3.block lb (Nat.lt_trans hlD HD2.out)).trans HX2.out)
          have HKL : Hid (∀ j, j < D → j ≠ lb → w3.heap[j]? = w.heap[j]?) := Lib.hid (fun j hj hn => (hb3.block j (Nat.lt_trans hj HD2.out)).trans (HK2.out j hj hn))
          have HDL : Hid (D < w3.heap.size) := Lib.hid (Nat.lt_of_lt_of_le HD2.out hb3.size)
          have HBL : Hid (Below B w w3) := Lib.hid (HB2.out.trans (hb3.mono (Nat.le_of_lt (Nat.lt_of_le_of_lt hBD HD2.out))))
          clear hb3 e2 cD fD hW2
          go_wp2_with (go_at_call 111; (with_reducible refine (HNE.out _).mono ?_); rintro e w4 ⟨N, rfl, hc4, hb4⟩; dsimp only)
          have HX4 := Lib.hid ((hb4.block lb (Nat.lt_trans hlD HDL.out)).trans HXL3.out)
          have HK4 : Hid (∀ j, j < D → j ≠ lb → w4.heap[j]? = w.heap[j]?) := Lib.hid (fun j hj hn => (hb4.block j (Nat.lt_trans hj HDL.out)).trans (HKL.out j hj hn))
          have HB4 : Hid (Below B w w4) := Lib.hid (HBL.out.trans (hb4.mono (Nat.le_of_lt (Nat.lt_of_le_of_lt hBD HDL.out))))
          have HC4 := Lib.hid hc4
          clear hb4 hc4
          go_wp2
          go_ret
          exact ⟨N, _, rfl, HC4.out, ⟨_, HG.out _ _ w4 HX4.out HK4.out⟩, HB4.out⟩
      · rw [if_neg hlt] at hE
        subst hE
        unfold ScanPost
        have HN := Lib.hid (nextYK_end B lb p start s rs its wr hY hs hlt hp)
        have HNE := Lib.hid (fun w => newErr_any litMsg w)
        clear hY hTr
        go_wp2_with (go_at_call 114; (with_reducible refine HN.out.mono ?_); rintro e w1 ⟨⟨rfl, hx, hb1⟩, hk1, st', p0, w0, lp', rv', iv', ha1, ha2⟩; obtain ⟨rfl, rfl, rfl, rfl⟩ := lxC_inj (HS.out.1.symm.trans ha1); have r1 : Row4 D xs w1 := (hk1.2 D HS.out.2.2 (by omega)).trans HR.out; obtain ⟨cD, fD⟩ := r1.cell hi4 HXL.out; have HX1 : Hid (w1.heap[lb]? = _) := Lib.hid ha2; have HK1 : Hid (∀ j, j < D → j ≠ lb → w1.heap[j]? = w.heap[j]?) := Lib.hid (fun j hj hn => (hk1.2 j (Nat.lt_trans hj HS.out.2.2) hn).trans (HS.out.2.1 j hj hn)); have HD1 : Hid (D < w1.heap.size) := Lib.hid (Nat.lt_of_lt_of_le HS.out.2.2 hk1.1); have HB1 := Lib.hid (HB.out.trans hb1); have HR1 := Lib.hid r1; clear hx hb1 hk1 ha1 ha2 r1; obtain ⟨W2, hW2⟩ : ∃ W2, w1.setCell ⟨D, i, none⟩ (.int .i32 (-1)) = W2 := ⟨_, rfl⟩; have e2 : W2.cell? ⟨D, i, none⟩ = some (.int .i32 (-1)) := (by rw [← hW2]; exact World.cell?_setCell_same' w1 ⟨D, i, none⟩ _ (by simp [cD])); dsimp only)
        have HX2 : Hid (W2.heap[lb]? = some (lxC s st p start 0 lp rv iv)) := Lib.hid (by rw [← hW2]; exact (Below.heap_setCell _ _ _ _ (by show lb ≠ D; omega)).trans HX1.out)
        have HK2 : Hid (∀ j, j < D → j ≠ lb → W2.heap[j]? = w.heap[j]?) := Lib.hid (fun j hj hn => by rw [← hW2]; exact (Below.heap_setCell _ _ _ _ (by show j ≠ D; omega)).trans (HK1.out j hj hn))
        have HD2 : Hid (D < W2.heap.size) := Lib.hid (by rw [← hW2]; simpa [World.setCell] using HD1.out)
        have HB2 : Hid (Below B w W2) := Lib.hid (by rw [← hW2]; exact HB1.out.setCell (p := ⟨D, i, none⟩) hBD _)
        have HXL3 := HX2
        have HKL := HK2
        have HDL := HD2
        have HBL := HB2
        go_wp2_with (go_at_call 111; (with_reducible refine (HNE.out _).mono ?_); rintro e w4 ⟨N, rfl, hc4, hb4⟩; dsimp only)
        have HX4 := Lib.hid ((hb4.block lb (Nat.lt_trans hlD HDL.out)).trans HXL3.out)
        have HK4 : Hid (∀ j, j < D → j ≠ lb → w4.heap[j]? = w.heap[j]?) := Lib.hid (fun j hj hn => (hb4.block j (Nat.lt_trans hj HDL.out)).trans (HKL.out j hj hn))
        have HB4 : Hid (Below B w w4) := Lib.hid (HBL.out.trans (hb4.mono (Nat.le_of_lt (Nat.lt_of_le_of_lt hBD HDL.out))))
        have HC4 := Lib.hid hc4
        clear hb4 hc4
        go_wp2
        go_ret
        exact ⟨N, _, rfl, HC4.out, ⟨_, HG.out _ _ w4 HX4.out HK4.out⟩, HB4.out⟩
    · have hi5 : i = 4 := by omega
      subst hi5
      have hY : LY B lb s p start rs its wr := ⟨wd, HG.out p wd wr HS.out.1 HS.out.2.1⟩
      have hE := HE.out
      rw [show 4 - 4 = 0 from rfl, hexs] at hE
      subst hE
      unfold ScanPost
      obtain ⟨e1, e2, e3⟩ := text_hex xs HAH.out
      obtain ⟨T, hT4⟩ : ∃ T, textOf xs = T := ⟨_, rfl⟩
      have hcv := row4_conv HR.out HXL.out
      rw [hT4] at hcv e1 e2 e3
      have hTs : T.size = 4 := by rw [Lib.size_eq, e1, List.length_map, HXL.out]
      have HPI := Lib.hid (fun w => pi16 T (by omega) (by omega) e2 w ((hexN xs : Nat) : Int) (by rw [e3]))
      have hlt5 := hexF_lt 4 T.data.toList (by rw [← Lib.size_eq]; omega)
      rw [e3] at hlt5
      have hlt6 : hexN xs < 65536 := hlt5
      have hw32 : IntKind.i32.wrap ((hexN xs : Nat) : Int) = ((hexN xs : Nat) : Int) := by rw [IntKind.wrap_i32]; omega
      have HY := Lib.hid hY
      have HAP := Lib.hid (fun w' (h : LY B lb s p start rs its w') => appendY B lb p start (hexN xs) s rs its w' h hn)
      clear e1 e2 e3 hT4 hY hTr hlt5
      go_wp2_with (go_at_call 163; (with_reducible refine (HPI.out _).mono ?_); rintro e w1 ⟨rfl, hb1⟩; dsimp only)
      have HY1 := Lib.hid (HY.out.below hb1)
      have HB1 : Hid (Below B w w1) := Lib.hid (HB.out.trans (hb1.mono HY.out.lt))
      clear hb1
      go_wp2_with (go_at_call 131; (with_reducible refine (HAP.out _ HY1.out).mono ?_); rintro e w2 ⟨rfl, hy2, hb2⟩; dsimp only)
      have HY2 := Lib.hid hy2
      have HB2 := Lib.hid (HB1.out.trans hb2)
      clear hy2 hb2
      go_wp2
      go_ret
      exact ⟨rfl, HY2.out, HB2.out⟩
end Go.Proofs.YtackciefmdiphaaGreatDoor
