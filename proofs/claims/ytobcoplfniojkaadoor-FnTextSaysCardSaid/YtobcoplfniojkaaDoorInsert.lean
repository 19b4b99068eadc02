/- The walks of xstrings.Insert and impl.Insert: a text put at a rune's place of another one; out of range it panics, and the panic is caught. -/
import Derived.Test.YtobcoplfniojkaaDoorISlice
namespace Go.Proofs.YtobcoplfniojkaaDoor
open Go.RowKit Plain

def insBad (n : Nat) (i : Int) : Bool := decide (i < 0) || decide ((n : Int) < i)
def insB (cs : List (List UInt8)) (src : ByteArray) (i : Int) : List UInt8 := (cs.take i.toNat).flatten ++ src.data.toList ++ (cs.drop i.toNat).flatten
def insEnd (cs : List (List UInt8)) (src : ByteArray) (i : Int) : Ending := if insBad cs.length i = true then outOfRange else .returned (.string ⟨(insB cs src i).toArray⟩)
def InsPost (cs : List (List UInt8)) (src : ByteArray) (i : Int) (w : World) (e : Ending) (w' : World) : Prop := e = insEnd cs src i ∧ Below w.heap.size w w'
theorem ipost_bad {cs : List (List UInt8)} {src : ByteArray} {i : Int} {w w' : World} (h : insBad cs.length i = true) (hb : Below w.heap.size w w') : InsPost cs src i w outOfRange w' := ⟨by unfold insEnd; rw [if_pos h], hb⟩
theorem ipost_good {cs : List (List UInt8)} {src : ByteArray} {i : Int} {w w' : World} {r : ByteArray} (h : ¬ insBad cs.length i = true) (hr : r.data.toList = insB cs src i) (hb : Below w.heap.size w w') : InsPost cs src i w (.returned (.string r)) w' :=
  ⟨by unfold insEnd; rw [if_neg h, ← hr], hb⟩
theorem mk_size (l : List UInt8) : (⟨l.toArray⟩ : ByteArray).size = l.length := by rw [Lib.size_eq]

set_option maxHeartbeats 2000000 in
set_option maxRecDepth 100000 in
theorem insert_any (s src : ByteArray) (i : Int) (w : World) (hs : s.size ≤ 2147483647) (hs2 : src.size ≤ 2147483647) (b1 : -9223372036854775808 ≤ i ∧ i ≤ 9223372036854775807) (hT : Tabs w) :
    Calls Tryd.prog 45 #[.string s, .string src, .int .i64 i] w (InsPost (segs s.data.toList) src i w) := by
  have hle := segs_le s
  have hflat := segs_flatten s.data.toList
  have c1 : ∀ w, Tabs w → Calls Tryd.prog 43 #[.string s, .int .i64 0, .int .i64 i] w (SlicePost (segs s.data.toList) 0 i w) := fun w hT => slice_any s 0 i w hs (by decide) b1 hT
  have c2 : ∀ w, Tabs w → Calls Tryd.prog 43 #[.string s, .int .i64 i, .int .i64 (-1)] w (SlicePost (segs s.data.toList) i (-1) w) := fun w hT => slice_any s i (-1) w hs b1 (by decide) hT
  generalize segs s.data.toList = CS at *
  by_cases hbad1 : sliceBad CS.length 0 i = true
  · have k1 : ∀ w, Tabs w → Calls Tryd.prog 43 #[.string s, .int .i64 0, .int .i64 i] w fun e w' => e = .panicked [{ v := .iface 9 (.string ⟨#[111, 117, 116, 32, 111, 102, 32, 114, 97, 110, 103, 101]⟩), recovered := false }] ∧ Below w.heap.size w w' := fun w hT => (c1 w hT).mono fun e w' ⟨he, hb⟩ => ⟨by rw [he, sliceEnd, if_pos hbad1]; rfl, hb⟩
    have K1 := Lib.hid k1
    have hb : Hid (insBad CS.length i = true) := Lib.hid (by simp [sliceBad, insBad] at hbad1 ⊢; omega)
    clear k1 c1 c2 hbad1 hflat
    go_enter Tryd.func45, Tryd.ntmps45
    go_wp2_with (go_at_call 43; (with_reducible refine (K1.out _ hT).mono ?_); rintro e w1 ⟨rfl, hb1⟩)
    exact ⟨rfl, ipost_bad hb.out hb1⟩
  · obtain ⟨x, hx⟩ : ∃ x : ByteArray, ⟨(sliceB CS 0 i).toArray⟩ = x := ⟨_, rfl⟩
    have k1 : ∀ w, Tabs w → Calls Tryd.prog 43 #[.string s, .int .i64 0, .int .i64 i] w fun e w' => e = .returned (.string x) ∧ Below w.heap.size w w' := fun w hT => (c1 w hT).mono fun e w' ⟨he, hb⟩ => ⟨by rw [he, sliceEnd, if_neg hbad1, hx], hb⟩
    have hxl : x.data.toList = sliceB CS 0 i := by rw [← hx]
    have hxs : x.size ≤ s.size := by
      rw [Lib.size_eq, Lib.size_eq, hxl, ← hflat]
      unfold sliceB
      split
      · simp
      · simp only [Int.toNat_zero, List.drop_zero]
        have := congrArg List.length (List.take_append_drop i.toNat CS)
        have h2 : CS.flatten = (CS.take i.toNat).flatten ++ (CS.drop i.toNat).flatten := by rw [← List.flatten_append, List.take_append_drop]
        rw [h2, List.length_append]
        omega
    have K1 := Lib.hid k1
    have HX := Lib.hid hxl
    by_cases hbad2 : insBad CS.length i = true
    · have k2 : ∀ w, Tabs w → Calls Tryd.prog 43 #[.string s, .int .i64 i, .int .i64 (-1)] w fun e w' => e = .panicked [{ v := .iface 9 (.string ⟨#[111, 117, 116, 32, 111, 102, 32, 114, 97, 110, 103, 101]⟩), recovered := false }] ∧ Below w.heap.size w w' := fun w hT => (c2 w hT).mono fun e w' ⟨he, hb⟩ => ⟨by rw [he, sliceEnd, if_pos (by simp [sliceBad, insBad] at hbad2 ⊢; omega)]; rfl, hb⟩
      have K2 := Lib.hid k2
      have hb := Lib.hid hbad2
      clear k1 k2 c1 c2 hbad1 hbad2 hflat hx hxl
      go_enter Tryd.func45, Tryd.ntmps45
      go_wp2_with (go_at_call 43; (with_reducible refine (K1.out _ hT).mono ?_); rintro e w1 ⟨rfl, hb1⟩)
      have hT1 := hT.below hb1
      go_wp2_with (go_at_call 43; (with_reducible refine (K2.out _ hT1).mono ?_); rintro e w2 ⟨rfl, hb2⟩)
      exact ⟨rfl, ipost_bad hb.out (bthen hb1 hb2)⟩
    · obtain ⟨y, hy⟩ : ∃ y : ByteArray, ⟨(sliceB CS i (-1)).toArray⟩ = y := ⟨_, rfl⟩
      have hi : 0 ≤ i ∧ i ≤ CS.length := by simp [insBad] at hbad2; omega
      have k2 : ∀ w, Tabs w → Calls Tryd.prog 43 #[.string s, .int .i64 i, .int .i64 (-1)] w fun e w' => e = .returned (.string y) ∧ Below w.heap.size w w' := fun w hT => (c2 w hT).mono fun e w' ⟨he, hb⟩ => ⟨by rw [he, sliceEnd, if_neg (by simp [sliceBad]; omega), hy], hb⟩
      have hyl : y.data.toList = (CS.drop i.toNat).flatten := by rw [← hy]; rfl
      have hys : y.size ≤ s.size := by
        rw [Lib.size_eq, Lib.size_eq, hyl, ← hflat]
        have h2 : CS.flatten = (CS.take i.toNat).flatten ++ (CS.drop i.toNat).flatten := by rw [← List.flatten_append, List.take_append_drop]
        rw [h2, List.length_append]
        omega
      have hxl' : x.data.toList = (CS.take i.toNat).flatten := by rw [hxl]; unfold sliceB; rw [if_neg (by omega)]; rfl
      have K2 := Lib.hid k2
      have hfin : Hid (((x ++ src) ++ y).data.toList = insB CS src i) := Lib.hid (by simp [insB, hxl', hyl])
      have hnb := Lib.hid hbad2
      clear k1 k2 c1 c2 hbad1 hbad2 hflat hx hxl hy hyl hxl' HX
      have hA : x.size + src.size ≤ 9223372036854775807 := by omega
      have hB : x.size + src.size + y.size ≤ 9223372036854775807 := by omega
      go_enter Tryd.func45, Tryd.ntmps45
      go_wp2_with (go_at_call 43; (with_reducible refine (K1.out _ hT).mono ?_); rintro e w1 ⟨rfl, hb1⟩)
      have hT1 := hT.below hb1
      go_wp2_with (go_at_call 43; (with_reducible refine (K2.out _ hT1).mono ?_); rintro e w2 ⟨rfl, hb2⟩)
      go_ret
      exact ipost_good hnb.out hfin.out (bthen hb1 hb2)

set_option maxRecDepth 100000 in
theorem catchI_panicking (p q : Addr) (x : ByteArray) (y : Bool) (u : TypeId) (pv : Value) (older : List PanicEntry) (w : World) (hpq : p ≠ q) (hc : w.cell? p = some (.string x)) (hz : w.frozen? p = false) (hd : w.cell? q = some (.bool y)) (hy : w.frozen? q = false) :
    CallsD Tryd.prog 44 #[.pointer (some p), .pointer (some q)] (.panicking ({ v := .iface u pv, recovered := false } :: older)) w fun e u' w' =>
      e = .returned (.tuple #[]) ∧ u' = .panicking ({ v := .iface u pv, recovered := true } :: older) ∧ w' = (w.setCell p (.string ⟨#[]⟩)).setCell q (.bool false) := by
  have hd2 : (w.setCell p (.string ⟨#[]⟩)).cell? q = some (.bool y) := by rw [World.cell?_setCell_other _ _ _ _ hpq]; exact hd
  refine callsD_of_wpS Tryd.func44 rfl fun c₀ cs hu => ?_
  apply wpS_seq
  apply wpS_region
  simp [wpOpsS, go_sem, recoverD, hu, Tryd.ntmps44, Exit.thenS]
  refine wpS_cond (t := true) (by simp [Act.eval, Array.replicate]) ?_
  simp only [if_true]
  apply wpS_region
  simp [wpOpsS, go_sem, hc, hz, hd2, hy, bodyPostS, results, Tryd.results44]

set_option maxRecDepth 100000 in
theorem catchI_idle (p q : Addr) (w : World) :
    CallsD Tryd.prog 44 #[.pointer (some p), .pointer (some q)] .returning w fun e u' w' => e = .returned (.tuple #[]) ∧ u' = .returning ∧ w' = w := by
  refine callsD_of_wpS Tryd.func44 rfl fun c₀ cs hu => ?_
  apply wpS_seq
  apply wpS_region
  simp [wpOpsS, go_sem, recoverD, hu, Tryd.ntmps44, Exit.thenS]
  refine wpS_cond (t := false) (by simp [Act.eval, Array.replicate]) ?_
  simp only [Bool.false_eq_true, if_false]
  refine wpS_of_wp (wp_skip ?_)
  cases c₀
  simp_all [bodyPostS, results, Tryd.results44]

set_option maxHeartbeats 1000000 in
set_option maxRecDepth 100000 in
theorem implInsert_bad (s src : ByteArray) (i : Int) (w : World) (hs : s.size ≤ 2147483647) (hs2 : src.size ≤ 2147483647) (b1 : -9223372036854775808 ≤ i ∧ i ≤ 9223372036854775807) (hT : Tabs w)
    (hbad : insBad (segs s.data.toList).length i = true) :
    Calls Tryd.prog 19 #[.string s, .string src, .int .i64 i] w fun e w' => e = .returned (.tuple #[.string ⟨#[]⟩, .bool false]) ∧ Below w.heap.size w w' := by
  have cS : ∀ w, Tabs w → Calls Tryd.prog 45 #[.string s, .string src, .int .i64 i] w fun e w' => e = .panicked [{ v := .iface 9 (.string ⟨#[111, 117, 116, 32, 111, 102, 32, 114, 97, 110, 103, 101]⟩), recovered := false }] ∧ Below w.heap.size w w' := fun w hT => (insert_any s src i w hs hs2 b1 hT).mono fun e w' ⟨he, hb⟩ => ⟨by rw [he, insEnd, if_pos hbad]; rfl, hb⟩
  have HS := Lib.hid cS
  clear cS hbad
  have hmf : ∀ (fn : Fn) (first cap : Array Value) (w : World), (Instr.makeFunc fn first cap).run Tryd.prog w = .ok (.func fn first cap) w := fun _ _ _ _ => rfl
  have hT2 : Tabs ((w.alloc (.cells #[.string ⟨#[]⟩] 9)).alloc (.cells #[.bool false] 4)) := hT.below (((Below.refl _ w).alloc (Nat.le_refl _) _).alloc (by simp) _)
  go_enter_defers Tryd.func19, Tryd.ntmps19
  go_wp2_with (go_at_call 45; (with_reducible refine (HS.out _ hT2).mono ?_); rintro e w1 ⟨rfl, hb⟩)
  obtain ⟨c0, c1, f0, f1, hbw⟩ := two_cells hb
  refine leaves_cons (f := 44) (args := #[.pointer (some ⟨w.heap.size, 0, none⟩), .pointer (some ⟨w.heap.size + 1, 0, none⟩)]) (by simp) (by simp [go_sem]) ?_
  refine (catchI_panicking ⟨w.heap.size, 0, none⟩ ⟨w.heap.size + 1, 0, none⟩ _ _ _ _ [] _ (addr_ne _) c0 f0 c1 f1).mono ?_
  rintro e u' w'' ⟨rfl, rfl, rfl⟩
  have d0 : ((w1.setCell ⟨w.heap.size, 0, none⟩ (.string ⟨#[]⟩)).setCell ⟨w.heap.size + 1, 0, none⟩ (.bool false)).cell? ⟨w.heap.size, 0, none⟩ = some (.string ⟨#[]⟩) := by
    rw [World.cell?_setCell_other _ _ _ _ (addr_ne _).symm]; exact World.cell?_setCell_same _ _ _ c0
  have d1 : ((w1.setCell ⟨w.heap.size, 0, none⟩ (.string ⟨#[]⟩)).setCell ⟨w.heap.size + 1, 0, none⟩ (.bool false)).cell? ⟨w.heap.size + 1, 0, none⟩ = some (.bool false) := by
    have h : (w1.setCell ⟨w.heap.size, 0, none⟩ (.string ⟨#[]⟩)).cell? ⟨w.heap.size + 1, 0, none⟩ = some (.bool false) := by rw [World.cell?_setCell_other _ _ _ _ (addr_ne _)]; exact c1
    exact World.cell?_setCell_same _ _ _ h
  have hbw2 : Below w.heap.size w ((w1.setCell ⟨w.heap.size, 0, none⟩ (.string ⟨#[]⟩)).setCell ⟨w.heap.size + 1, 0, none⟩ (.bool false)) := (hbw.setCell (p := ⟨w.heap.size, 0, none⟩) (Nat.le_refl _) _).setCell (p := ⟨w.heap.size + 1, 0, none⟩) (Nat.le_succ _) _
  generalize ((w1.setCell ⟨w.heap.size, 0, none⟩ (.string ⟨#[]⟩)).setCell ⟨w.heap.size + 1, 0, none⟩ (.bool false)) = wz at d0 d1 hbw2 ⊢
  simp [Leaves, settle, results, Tryd.results19, go_sem, d0, d1]
  exact hbw2

set_option maxHeartbeats 1000000 in
set_option maxRecDepth 100000 in
theorem implInsert_good (s src : ByteArray) (i : Int) (w : World) (hs : s.size ≤ 2147483647) (hs2 : src.size ≤ 2147483647) (b1 : -9223372036854775808 ≤ i ∧ i ≤ 9223372036854775807) (hT : Tabs w)
    (hgood : ¬ insBad (segs s.data.toList).length i = true) :
    Calls Tryd.prog 19 #[.string s, .string src, .int .i64 i] w fun e w' => e = .returned (.tuple #[.string ⟨(insB (segs s.data.toList) src i).toArray⟩, .bool true]) ∧ Below w.heap.size w w' := by
  obtain ⟨r, hr⟩ : ∃ r : ByteArray, ⟨(insB (segs s.data.toList) src i).toArray⟩ = r := ⟨_, rfl⟩
  have cS : ∀ w, Tabs w → Calls Tryd.prog 45 #[.string s, .string src, .int .i64 i] w fun e w' => e = .returned (.string r) ∧ Below w.heap.size w w' := fun w hT => (insert_any s src i w hs hs2 b1 hT).mono fun e w' ⟨he, hb⟩ => ⟨by rw [he, insEnd, if_neg hgood, hr], hb⟩
  rw [hr]
  have HS := Lib.hid cS
  clear cS hgood hr
  have hmf : ∀ (fn : Fn) (first cap : Array Value) (w : World), (Instr.makeFunc fn first cap).run Tryd.prog w = .ok (.func fn first cap) w := fun _ _ _ _ => rfl
  have hT2 : Tabs ((w.alloc (.cells #[.string ⟨#[]⟩] 9)).alloc (.cells #[.bool false] 4)) := hT.below (((Below.refl _ w).alloc (Nat.le_refl _) _).alloc (by simp) _)
  go_enter_defers Tryd.func19, Tryd.ntmps19
  go_wp2_with (go_at_call 45; (with_reducible refine (HS.out _ hT2).mono ?_); rintro e w1 ⟨rfl, hb⟩; obtain ⟨c0, c1, f0, f1, hbw⟩ := two_cells hb)
  refine leaves_cons (f := 44) (args := #[.pointer (some ⟨w.heap.size, 0, none⟩), .pointer (some ⟨w.heap.size + 1, 0, none⟩)]) (by simp) (by simp [go_sem]) ?_
  refine (catchI_idle ⟨w.heap.size, 0, none⟩ ⟨w.heap.size + 1, 0, none⟩ _).mono ?_
  rintro e u' w'' ⟨rfl, rfl, rfl⟩
  have d0 : ((w1.setCell ⟨w.heap.size, 0, none⟩ (.string r)).setCell ⟨w.heap.size + 1, 0, none⟩ (.bool true)).cell? ⟨w.heap.size, 0, none⟩ = some (.string r) := by
    rw [World.cell?_setCell_other _ _ _ _ (addr_ne _).symm]; exact World.cell?_setCell_same _ _ _ c0
  have d1 : ((w1.setCell ⟨w.heap.size, 0, none⟩ (.string r)).setCell ⟨w.heap.size + 1, 0, none⟩ (.bool true)).cell? ⟨w.heap.size + 1, 0, none⟩ = some (.bool true) := by
    have h : (w1.setCell ⟨w.heap.size, 0, none⟩ (.string r)).cell? ⟨w.heap.size + 1, 0, none⟩ = some (.bool false) := by rw [World.cell?_setCell_other _ _ _ _ (addr_ne _)]; exact c1
    exact World.cell?_setCell_same _ _ _ h
  have hbw2 : Below w.heap.size w ((w1.setCell ⟨w.heap.size, 0, none⟩ (.string r)).setCell ⟨w.heap.size + 1, 0, none⟩ (.bool true)) := (hbw.setCell (p := ⟨w.heap.size, 0, none⟩) (Nat.le_refl _) _).setCell (p := ⟨w.heap.size + 1, 0, none⟩) (Nat.le_succ _) _
  generalize ((w1.setCell ⟨w.heap.size, 0, none⟩ (.string r)).setCell ⟨w.heap.size + 1, 0, none⟩ (.bool true)) = wz at d0 d1 hbw2 ⊢
  simp [Leaves, settle, results, Tryd.results19, go_sem, d0, d1]
  exact hbw2
end Go.Proofs.YtobcoplfniojkaaDoor
