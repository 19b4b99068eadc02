/- The walk of NewTranslator. -/
import Derived.Test.YtdgaehkfdaacjaaDoorTrWs
import Derived.Test.YtdgaehkfdaacjaaDoorTrFuel
import Derived.Test.YtdgaehkfdaacjaaDoorFrm
import Derived.Deep.CutBlock
import Derived.Deep.LoopGhost
set_option linter.unusedVariables false
namespace Go.Proofs.YtdgaehkfdaacjaaDoor
open Go.RowKit Plain Go.Maps

theorem lit204 (a : Act) (h : Fr 204 a) : ∃ f : Nat → Value, (∀ i, Sl a i = f i) ∧ a = ⟨#[f 0, f 1, f 2, f 3, f 4, f 5, f 6, f 7, f 8, f 9, f 10, f 11, f 12, f 13, f 14, f 15, f 16, f 17, f 18, f 19, f 20, f 21, f 22, f 23, f 24, f 25, f 26, f 27, f 28, f 29, f 30, f 31, f 32, f 33, f 34, f 35, f 36, f 37, f 38, f 39, f 40, f 41, f 42, f 43, f 44, f 45, f 46, f 47, f 48, f 49, f 50, f 51, f 52, f 53, f 54, f 55, f 56, f 57, f 58, f 59, f 60, f 61, f 62, f 63, f 64, f 65, f 66, f 67, f 68, f 69, f 70, f 71, f 72, f 73, f 74, f 75, f 76, f 77, f 78, f 79, f 80, f 81, f 82, f 83, f 84, f 85, f 86, f 87, f 88, f 89, f 90, f 91, f 92, f 93, f 94, f 95, f 96, f 97, f 98, f 99, f 100, f 101, f 102, f 103, f 104, f 105, f 106, f 107, f 108, f 109, f 110, f 111, f 112, f 113, f 114, f 115, f 116, f 117, f 118, f 119, f 120, f 121, f 122, f 123, f 124, f 125, f 126, f 127, f 128, f 129, f 130, f 131, f 132, f 133, f 134, f 135, f 136, f 137, f 138, f 139, f 140, f 141, f 142, f 143, f 144, f 145, f 146, f 147, f 148, f 149, f 150, f 151, f 152, f 153, f 154, f 155, f 156, f 157, f 158, f 159, f 160, f 161, f 162, f 163, f 164, f 165, f 166, f 167, f 168, f 169, f 170, f 171, f 172, f 173, f 174, f 175, f 176, f 177, f 178, f 179, f 180, f 181, f 182, f 183, f 184, f 185, f 186, f 187, f 188, f 189, f 190, f 191, f 192, f 193, f 194, f 195, f 196, f 197, f 198, f 199, f 200, f 201, f 202, f 203], []⟩ := frame_lit 204 a h
def frL (l : List UInt8) : List UInt8 := if l.head? = some 94 then l.tail else l
def revL (l : List UInt8) : Bool := l.head? == some 94
/-- the translator of two patterns (the first one is not empty) -/
def ntrL (s t : List UInt8) : TD × Int := ntr (rnsL (frL s)) (rnsL t) (revL s) t.isEmpty
def flL (s t : List UInt8) : Int × Bool × Bool × Bool := (if t.isEmpty = true ∨ revL s = true then (ntrL s t).2 else -1, revL s, t.isEmpty, true)
def NewPost (s t : List UInt8) (w : World) (e : Ending) (w' : World) : Prop :=
  ∃ pb base vs vq vm vr, e = .returned (.pointer (some ⟨pb, 0, none⟩)) ∧ TrQ base pb vs (ntrL s t).1 (flL s t) vq vm vr w' ∧ w.heap.size ≤ pb ∧ Below w.heap.size w w'
def nt5 (fr t : List Nat) : NT := ⟨fr, 0, -1, 0, t, 0, 0, 0⟩
theorem cnt_step {a b A f f' : Nat} (h1 : a ≤ b + 2) (h2 : f' < f) (h3 : b + 2 * f ≤ A) : a + 2 * f' ≤ A := by omega
theorem lt_step {f f' k : Nat} (h2 : f' < f) (h3 : f < k) : f' < k - 1 := by omega
theorem nt0_ok (fr t : List Nat) (rev del : Bool) (hf : ∀ r ∈ fr, r ≤ 1114111) (ht : ∀ r ∈ t, r ≤ 1114111) : SOk (nt0 fr t rev del) := by
  have hl : ∀ (t : List Nat) (x : Int), (∀ r ∈ t, r ≤ 1114111) → 0 ≤ x → x ≤ 1114111 → 0 ≤ lastD x t ∧ lastD x t ≤ 1114111 := by
    intro t
    induction t with
    | nil => intro x _ h0 h1; exact ⟨h0, h1⟩
    | cons r t ih =>
      intro x h h0 h1
      have hr : r ≤ 1114111 := h r List.mem_cons_self
      exact ih (r : Int) (fun y hy => h y (List.mem_cons_of_mem _ hy)) (by omega) (by omega)
  unfold nt0
  split
  · exact ⟨⟨ht, by simp, by simp, by simp, by simp, .inl rfl⟩, hf, by simp, by simp⟩
  · split
    · obtain ⟨h1, h2⟩ := hl t 0 ht (by omega) (by omega)
      exact ⟨⟨by simp, h1, h2, by simp, by simp, .inl rfl⟩, hf, by simp, by simp⟩
    · have k := nrr_ok (last := -1) ht (by omega) (by omega)
      exact ⟨⟨k.rs, k.s0, k.s1, k.e0, k.e1, by have := k.st; simp only; omega⟩, hf, by simp, by simp⟩

set_option maxHeartbeats 16000000 in
set_option maxRecDepth 100000 in
theorem newT_ne (s t : ByteArray) (w : World) (hT : Tabs w) (hs0 : 0 < s.size) (hs : s.size ≤ 2000) (ht : t.size ≤ 2147483647) :
    Calls Tryd.prog 27 #[.string s, .string t] w (NewPost s.data.toList t.data.toList w) := by
  obtain ⟨rev, hrev⟩ : ∃ rev, (((s[0]'hs0).toNat : Int) == 94) = rev := ⟨_, rfl⟩
  obtain ⟨del, hdel⟩ : ∃ del, ((t.size : Int) == 0) = del := ⟨_, rfl⟩
  obtain ⟨fs, hfs⟩ : ∃ fs : ByteArray, (if rev = true then s.extract 1 s.size else s) = fs := ⟨_, rfl⟩
  have hdat : ∃ c l, s.data.toList = c :: l ∧ c = s[0]'hs0 := by
    cases h : s.data.toList with
    | nil => have := congrArg List.length h; rw [← Lib.size_eq, List.length_nil] at this; omega
    | cons c l =>
      refine ⟨c, l, rfl, ?_⟩
      have e := Lib.data_getElem? s 0 hs0
      rw [h] at e
      exact Option.some.inj e
  have hrl : revL s.data.toList = rev := by
    obtain ⟨c, l, h1, h2⟩ := hdat
    rw [← hrev, ← h2, h1]
    unfold revL
    rw [List.head?_cons, Bool.eq_iff_iff, beq_iff_eq, beq_iff_eq]
    constructor
    · intro e; injection e with e; subst e; rfl
    · intro e; congr 1; apply UInt8.toNat_inj.1; show c.toNat = 94; omega
  have hfl : rnsL (frL s.data.toList) = rnsL fs.data.toList := by
    rw [← hfs]
    unfold frL
    unfold revL at hrl
    rw [← hrl]
    by_cases e : s.data.toList.head? = some 94
    · have e2 : (s.data.toList.head? == some 94) = true := by rw [beq_iff_eq]; exact e
      rw [if_pos e, if_pos e2, (rest_of s 1).1, List.drop_one]
    · have e2 : ¬ (s.data.toList.head? == some 94) = true := by rw [beq_iff_eq]; exact e
      rw [if_neg e, if_neg e2]
  have hdl : t.data.toList.isEmpty = del := by
    rw [← hdel, Bool.eq_iff_iff, List.isEmpty_iff, beq_iff_eq]
    constructor
    · intro e; have := congrArg List.length e; rw [← Lib.size_eq, List.length_nil] at this; omega
    · intro e; exact List.eq_nil_of_length_eq_zero (by rw [← Lib.size_eq]; omega)
  have hfz : fs.size ≤ 2000 := by rw [← hfs]; split; (rw [(rest_of s 1).2]; omega); exact hs
  obtain ⟨R, hR⟩ : ∃ R, outF (rnsL fs.data.toList).length (nt0 (rnsL fs.data.toList) (rnsL t.data.toList) rev del) td0 = R := ⟨_, rfl⟩
  have hres : ntrL s.data.toList t.data.toList = trEnd R.1 R.2 := by
    unfold ntrL ntr
    rw [hfl, hrl, hdl, hR]
  have hse : s.toList.isEmpty = false := by
    rw [ByteArray.toList_eq]
    obtain ⟨c, l, h1, -⟩ := hdat
    rw [h1]; rfl
  have hflg : flL s.data.toList t.data.toList = (if del = true ∨ rev = true then (trEnd R.1 R.2).2 else -1, rev, del, true) := by
    unfold flL
    rw [hres, hrl, hdl]
  have HRES := Lib.hid hres
  have HFLG := Lib.hid hflg
  have HR := Lib.hid hR
  have HFS := Lib.hid hfs
  have HDL := Lib.hid hdl
  have hs0z : (0 : Int) < (s.size : Int) := by omega
  have h1z : (1 : Int) ≤ (s.size : Int) := by omega
  clear hres hR hfs hdat hrl hfl hdl hflg
  obtain ⟨p0, hp0⟩ : ∃ p0, w.heap.size = p0 := ⟨_, rfl⟩
  obtain ⟨pb, hpb⟩ : ∃ pb, p0 + 1 = pb := ⟨_, rfl⟩
  have HP0 := Lib.hid hp0
  have HPB := Lib.hid hpb
  clear hp0 hpb
  go_enter Tryd.func27, Tryd.ntmps27
  go_upto_if 30 with fail
  rw [HP0.out, HPB.out]
  refine wp_cut (fun a wx => wx = (w.alloc (.cells #[.string t] 9)).alloc (.cells #[.pointer none, .map none, .slice none 0 0, .int .i32 0, .bool false, .bool false, .bool false] 58) ∧ Fr 204 a ∧ Sl a 0 = .string fs ∧ Sl a 1 = .string t ∧ Sl a 3 = .pointer (some ⟨p0, 0, none⟩) ∧ Sl a 4 = .pointer none ∧ Sl a 5 = .pointer (some ⟨pb, 0, none⟩) ∧ Sl a 6 = .bool rev ∧ Sl a 7 = .bool del) ?rest1 ?first1
  case first1 =>
    intro J1 K1 hJ1 hK1
    cases rev
    all_goals
      go_wp2_with fail
      refine Met.intro ?_
      go_step
      exact ⟨rfl, ⟨rfl, rfl⟩, by rw [← HFS.out]; rfl, rfl, rfl, rfl, rfl, rfl, rfl⟩
  case rest1 =>
  clear hrev hdel hs0z h1z hse hs0
  intro a wx hcut
  obtain ⟨rfl, hFr, hS0, hS1, hS3, hS4, hS5, hS6, hS7⟩ := hcut
  obtain ⟨f, hf, hA⟩ := lit204 a hFr
  rw [hf] at hS0 hS1 hS3 hS4 hS5 hS6 hS7
  rw [hS0, hS1, hS3, hS4, hS5, hS6, hS7] at hA
  clear hf hFr hS0 hS1 hS3 hS4 hS5 hS6 hS7
  subst hA
  go_upto_if 34 with fail
  rw [HP0.out, HPB.out]
  obtain ⟨pts, hpts⟩ : ∃ pts, pb + 1 = pts := ⟨_, rfl⟩
  obtain ⟨pte, hpte⟩ : ∃ pte, pts + 1 = pte := ⟨_, rfl⟩
  obtain ⟨pst, hpst⟩ : ∃ pst, pte + 1 = pst := ⟨_, rfl⟩
  rw [hpts, hpte, hpst]
  obtain ⟨W, hW⟩ : ∃ W, ((((w.alloc (.cells #[.string t] 9)).alloc (.cells #[.pointer none, .map none, .slice none 0 0, .int .i32 0, .bool false, .bool false, .bool false] 58)).alloc (.cells #[.int .i32 0] 21)).alloc (.cells #[.int .i32 0] 21)).alloc (.cells #[.int .i32 0] 21) = W := ⟨_, rfl⟩
  have hws := ws_first t (rnsL fs.data.toList) w W p0 pb pts pte pst 2147483647 ht HP0.out HPB.out hpts hpte hpst hW
  rw [hW]
  obtain ⟨base, hbase⟩ : ∃ base, pst + 1 = base := ⟨_, rfl⟩
  rw [hbase] at hws
  have HWS := Lib.hid hws
  have hob : w.heap.size ≤ pb := hws.lo.2.1
  clear hpts hpte hpst hW hbase hws
  refine wp_cut (fun a wx => WS p0 pb pts pte pst base 2147483647 (nt0 (rnsL fs.data.toList) (rnsL t.data.toList) rev del) td0 (.slice none 0 0) w wx ∧ Fr 204 a ∧ Sl a 0 = .string fs ∧ Sl a 3 = .pointer (some ⟨p0, 0, none⟩) ∧ Sl a 5 = .pointer (some ⟨pb, 0, none⟩) ∧ Sl a 6 = .bool rev ∧ Sl a 7 = .bool del ∧ Sl a 8 = .int .i32 0 ∧ Sl a 10 = .int .i32 0 ∧ Sl a 11 = .pointer (some ⟨pts, 0, none⟩) ∧ Sl a 12 = .pointer (some ⟨pte, 0, none⟩) ∧ Sl a 13 = .pointer (some ⟨pst, 0, none⟩) ∧ Sl a 16 = .slice none 0 0 ∧ Sl a 17 = .func (Fn.func 39) #[] #[.pointer (some ⟨pte, 0, none⟩), .pointer (some ⟨pst, 0, none⟩), .pointer (some ⟨p0, 0, none⟩), .pointer (some ⟨pts, 0, none⟩)]) ?rest2 ?first2
  case first2 =>
    intro J2 K2 hJ2 hK2
    obtain ⟨c1, c2, c3, f1, f2, f3⟩ := HWS.out.cells
    obtain ⟨u, htp, hun, c0, f0⟩ := HWS.out.cellTo
    have HTP : Hid (rnsL u.data.toList = rnsL t.data.toList) := Lib.hid htp
    clear htp
    have n1 := HWS.out.nt.n1
    have n2 := HWS.out.nt.n2
    have n3 := HWS.out.nt.n3
    have n4 := HWS.out.nt.n4
    have n5 := HWS.out.nt.n5
    have n6 := HWS.out.nt.n6
    have m1 := n1.symm
    have m2 := n2.symm
    have m3 := n3.symm
    have m4 := n4.symm
    have m5 := n5.symm
    have m6 := n6.symm
    by_cases hdl : del = true
    · subst hdl
      have h1 := HWS.out.setTs 65533 ⟨HWS.out.ok.rs, by simp, by simp, by simp, by simp, .inl rfl⟩
      have h2 := h1.setTe (-1) ⟨h1.ok.rs, by simp, by simp, by simp, by simp, .inl rfl⟩
      have H2 := Lib.hid h2
      clear h1 h2 c0 f0
      go_wp2_with fail
      refine Met.intro ?_
      go_step
      exact ⟨H2.out, ⟨rfl, rfl⟩, rfl, rfl, rfl, rfl, rfl, rfl, rfl, rfl, rfl, rfl, rfl, rfl⟩
    have hdl' : del = false := by cases del; rfl; exact absurd rfl hdl
    subst hdl'
    by_cases hrv : rev = true
    · subst hrv
      obtain ⟨L, hL⟩ : ∃ L, lastD 0 (rnsL t.data.toList) = L := ⟨_, rfl⟩
      have HL := Lib.hid hL
      have hone : One W p0 9 (.string u) := by
        obtain ⟨u', _, _, h3⟩ := HWS.out.nt.tp
        have e := cell_of_one h3
        rw [c0] at e
        injection e with e
        injection e with e
        subst e
        exact h3
      have HW0 : Hid (WS p0 pb pts pte pst base 2147483647 ⟨rnsL fs.data.toList, 0, -1, 0, rnsL u.data.toList, 0, 0, 0⟩ td0 (.slice none 0 0) w W) := by rw [HTP.out]; exact HWS
      have HONE := Lib.hid hone
      clear hL hone c0 f0 c1 c2 c3 f1 f2 f3
      go_wp2_with fail
      refine wp_loop_ghost_k (fun g a wr => ∃ (u : ByteArray) (v : Int), WS p0 pb pts pte pst base 2147483647 ⟨rnsL fs.data.toList, 0, -1, 0, rnsL u.data.toList, v, 0, 0⟩ td0 (.slice none 0 0) w wr ∧ One wr p0 9 (.string u) ∧ u.size ≤ 2147483647 ∧ g = u.size ∧ lastD v (rnsL u.data.toList) = L ∧ Fr 204 a ∧ Sl a 0 = .string fs ∧ Sl a 3 = .pointer (some ⟨p0, 0, none⟩) ∧ Sl a 5 = .pointer (some ⟨pb, 0, none⟩) ∧ Sl a 6 = .bool true ∧ Sl a 7 = .bool false ∧ Sl a 8 = .int .i32 0 ∧ Sl a 10 = .int .i32 0 ∧ Sl a 11 = .pointer (some ⟨pts, 0, none⟩) ∧ Sl a 12 = .pointer (some ⟨pte, 0, none⟩) ∧ Sl a 13 = .pointer (some ⟨pst, 0, none⟩) ∧ Sl a 16 = .slice none 0 0 ∧ Sl a 17 = .func (Fn.func 39) #[] #[.pointer (some ⟨pte, 0, none⟩), .pointer (some ⟨pst, 0, none⟩), .pointer (some ⟨p0, 0, none⟩), .pointer (some ⟨pts, 0, none⟩)]) u.size ?atStart ?round
      case atStart => exact ⟨u, 0, HW0.out, HONE.out, hun, rfl, by rw [HTP.out]; exact HL.out, ⟨rfl, rfl⟩, rfl, rfl, rfl, rfl, rfl, rfl, rfl, rfl, rfl, rfl, rfl, rfl⟩
      case round =>
        intro gk a wr hinv J K hJ hK
        clear HW0 HONE HTP hun u
        obtain ⟨u, v, hws, hone, hun, rfl, hlast, hFr, hS0, hS3, hS5, hS6, hS7, hS8, hS10, hS11, hS12, hS13, hS16, hS17⟩ := hinv
        have HLAST := Lib.hid hlast
        clear hlast
        obtain ⟨f, hf, hA⟩ := lit204 a hFr
        rw [hf] at hS0 hS3 hS5 hS6 hS7 hS8 hS10 hS11 hS12 hS13 hS16 hS17
        rw [hS0, hS3, hS5, hS6, hS7, hS8, hS10, hS11, hS12, hS13, hS16, hS17] at hA
        clear hf hFr hS0 hS3 hS5 hS6 hS7 hS8 hS10 hS11 hS12 hS13 hS16 hS17
        subst hA
        obtain ⟨c1, c2, c3, f1, f2, f3⟩ := hws.cells
        have c0 := cell_of_one hone
        have f0 := free_of_one hone
        have HV := Lib.hid hws
        have HONE := Lib.hid hone
        have hTr := hT.below hws.bel
        clear hws hone
        by_cases hu0 : 0 < u.size
        · have huz : (0 : Int) < (u.size : Int) := by omega
          obtain ⟨r, k, hh⟩ := head_of u hu0
          have HH := Lib.hid hh
          have hr1 : r ≤ 1114111 := hh.rune
          have hk1 : 1 ≤ k := hh.pos
          have hk2 : k ≤ u.size := hh.le
          have HRN := Lib.hid (rns_step u r k hh)
          have HRS := Lib.hid (rest_of u k).2
          clear hh
          go_wp2_with (go_at_call 41; with_reducible refine (decode_any u _ hTr r k HH).mono ?_)
          rintro e w1 rfl hb1
          have hw1 := HV.out.toBelow hb1
          have ho1 := HONE.out.keep (q := fun _ => True) (Keep.of_below hb1) trivial
          obtain ⟨c1', c2', c3', f1', f2', f3'⟩ := hw1.cells
          have c0' := cell_of_one ho1
          have f0' := free_of_one ho1
          have H1 := Lib.hid ((hw1.setTs (r : Int) ⟨hw1.ok.rs, by show (0 : Int) ≤ (r : Int); omega, by show (r : Int) ≤ 1114111; omega, by simp, by simp, .inl rfl⟩).setTp (u.extract k u.size) (by rw [HRS.out]; omega))
          have HO1 := Lib.hid ho1
          clear hw1 ho1 c0 f0 c1 c2 c3 f1 f2 f3 hb1
          dsimp only
          go_wp2_with fail
          refine Handed.intro (u.size - k) (by omega) ?_
          go_step
          exact ⟨u.extract k u.size, r, H1.out, (HO1.out.far n1 _).set _, by rw [HRS.out]; omega, HRS.out.symm, by have := HLAST.out; rw [HRN.out] at this; exact this, ⟨rfl, rfl⟩, rfl, rfl, rfl, rfl, rfl, rfl, rfl, rfl, rfl, rfl, rfl, rfl⟩
        · have huz : ¬ (0 : Int) < (u.size : Int) := by omega
          have hlv : Hid (v = L) := Lib.hid (by have := HLAST.out; rw [rns_empty u hu0] at this; exact this)
          have H1 := Lib.hid (HV.out.setTe (-1) ⟨HV.out.ok.rs, HV.out.ok.s0, HV.out.ok.s1, by simp, by simp, .inl rfl⟩)
          have hnt : Hid (nt0 (rnsL fs.data.toList) (rnsL t.data.toList) true false = ⟨rnsL fs.data.toList, 0, -1, 0, rnsL u.data.toList, v, -1, 0⟩) := Lib.hid (by rw [rns_empty u hu0, hlv.out, ← HL.out]; rfl)
          go_wp2_with fail
          refine Met.intro ?_
          go_step
          exact ⟨by rw [hnt.out]; exact H1.out, ⟨rfl, rfl⟩, rfl, rfl, rfl, rfl, rfl, rfl, rfl, rfl, rfl, rfl, rfl, rfl⟩
    have hrv' : rev = false := by cases rev; rfl; exact absurd rfl hrv
    subst hrv'
    have hTW := hT.below HWS.out.bel
    have HN := Lib.hid (HTP.out ▸ nrr_any u (-1) W hTW (by omega) (by omega) (by omega))
    have hnt : Hid (nt0 (rnsL fs.data.toList) (rnsL t.data.toList) false false = ⟨rnsL fs.data.toList, 0, -1, 0, (nrr (rnsL t.data.toList) (-1)).1, (nrr (rnsL t.data.toList) (-1)).2.1, (nrr (rnsL t.data.toList) (-1)).2.2.1, (nrr (rnsL t.data.toList) (-1)).2.2.2⟩) := Lib.hid rfl
    have hnk := nrr_ok (p := rnsL t.data.toList) (last := -1) (rns_le _) (by omega) (by omega)
    have HNK := Lib.hid hnk
    clear hnk
    generalize nrr (rnsL t.data.toList) (-1) = N at HN hnt HNK
    go_wp2_with (go_at_call 40; with_reducible refine HN.out.mono ?_)
    rintro e w1 ⟨t1, rfl, ht1, ht1n, hb⟩
    have hw1 := HWS.out.toBelow hb
    obtain ⟨u', htp', hun', c0', f0'⟩ := hw1.cellTo
    obtain ⟨c1', c2', c3', f1', f2', f3'⟩ := hw1.cells
    have H1 := Lib.hid (hw1.set4 ⟨rnsL fs.data.toList, 0, -1, 0, N.1, N.2.1, N.2.2.1, N.2.2.2⟩ t1 (by omega) ht1 ⟨HNK.out.rs, HNK.out.s0, HNK.out.s1, HNK.out.e0, HNK.out.e1, by have := HNK.out.st; simp only; omega⟩)
    clear hw1 htp' c0 f0 c1 c2 c3 f1 f2 f3 ht1 hb
    dsimp only
    go_wp2_with fail
    refine Met.intro ?_
    go_step
    exact ⟨by rw [hnt.out]; exact H1.out, ⟨rfl, rfl⟩, rfl, rfl, rfl, rfl, rfl, rfl, rfl, rfl, rfl, rfl, rfl, rfl⟩
  case rest2 =>
  intro a wx hcut
  obtain ⟨hws, hFr, hS0, hS3, hS5, hS6, hS7, hS8, hS10, hS11, hS12, hS13, hS16, hS17⟩ := hcut
  obtain ⟨f, hf, hA⟩ := lit204 a hFr
  rw [hf] at hS0 hS3 hS5 hS6 hS7 hS8 hS10 hS11 hS12 hS13 hS16 hS17
  rw [hS0, hS3, hS5, hS6, hS7, hS8, hS10, hS11, hS12, hS13, hS16, hS17] at hA
  clear hf hFr hS0 hS3 hS5 hS6 hS7 hS8 hS10 hS11 hS12 hS13 hS16 hS17
  subst hA
  have hlen0 : (rnsL fs.data.toList).length ≤ 2000 := by
    unfold rnsL
    rw [List.length_map]
    have := segs_length_le fs.data.toList
    rw [← Lib.size_eq] at this
    omega
  have HWS2 := Lib.hid hws
  clear hws HWS
  go_wp2_with fail
  refine wp_loop_ghost_k (fun g a wr => ∃ (x : NT) (d : TD) (vs : Value) (q : ByteArray), WS p0 pb pts pte pst base 2147483647 x d vs w wr ∧ rnsL q.data.toList = x.fr ∧ q.size ≤ 2000 ∧ SOk x ∧ g = x.fr.length ∧ x.fr.length ≤ 2000 ∧ cnt d + x.fr.length * 4000000 ≤ 8000000000 ∧ outF x.fr.length x d = R ∧ Fr 204 a ∧ Sl a 0 = .string q ∧ Sl a 3 = .pointer (some ⟨p0, 0, none⟩) ∧ Sl a 5 = .pointer (some ⟨pb, 0, none⟩) ∧ Sl a 6 = .bool rev ∧ Sl a 7 = .bool del ∧ Sl a 8 = .int .i32 x.fs ∧ Sl a 9 = .int .i32 x.fe ∧ Sl a 10 = .int .i32 x.fst ∧ Sl a 11 = .pointer (some ⟨pts, 0, none⟩) ∧ Sl a 12 = .pointer (some ⟨pte, 0, none⟩) ∧ Sl a 13 = .pointer (some ⟨pst, 0, none⟩) ∧ Sl a 16 = vs ∧ Sl a 17 = .func (Fn.func 39) #[] #[.pointer (some ⟨pte, 0, none⟩), .pointer (some ⟨pst, 0, none⟩), .pointer (some ⟨p0, 0, none⟩), .pointer (some ⟨pts, 0, none⟩)]) (rnsL fs.data.toList).length ?atStart ?round
  case atStart =>
    have hfr : (nt0 (rnsL fs.data.toList) (rnsL t.data.toList) rev del).fr = rnsL fs.data.toList := by unfold nt0; split; rfl; split <;> rfl
    have h1 : (nt0 (rnsL fs.data.toList) (rnsL t.data.toList) rev del).fs = 0 := by unfold nt0; split; rfl; split <;> rfl
    have h2 : (nt0 (rnsL fs.data.toList) (rnsL t.data.toList) rev del).fe = -1 := by unfold nt0; split; rfl; split <;> rfl
    have h3 : (nt0 (rnsL fs.data.toList) (rnsL t.data.toList) rev del).fst = 0 := by unfold nt0; split; rfl; split <;> rfl
    have hc : cnt td0 = 0 := rfl
    exact ⟨nt0 (rnsL fs.data.toList) (rnsL t.data.toList) rev del, td0, _, fs, HWS2.out, hfr.symm, hfz, nt0_ok _ _ _ _ (rns_le _) (rns_le _), by rw [hfr], by rw [hfr]; exact hlen0, by rw [hfr, hc]; omega, by rw [hfr]; exact HR.out, ⟨rfl, rfl⟩, rfl, rfl, rfl, rfl, rfl, by rw [h1]; rfl, by rw [h2]; rfl, by rw [h3]; rfl, rfl, rfl, rfl, rfl, rfl⟩
  case round =>
    intro gk a wr hinv J K hJ hK
    clear HWS2 hfz hlen0
    obtain ⟨x, d, vs, q, hws, hq, hqz, hso, rfl, hlen, hcnt, hout, hFr, hS0, hS3, hS5, hS6, hS7, hS8, hS9, hS10, hS11, hS12, hS13, hS16, hS17⟩ := hinv
    obtain ⟨f, hf, hA⟩ := lit204 a hFr
    rw [hf] at hS0 hS3 hS5 hS6 hS7 hS8 hS9 hS10 hS11 hS12 hS13 hS16 hS17
    rw [hS0, hS3, hS5, hS6, hS7, hS8, hS9, hS10, hS11, hS12, hS13, hS16, hS17] at hA
    clear hf hFr hS0 hS3 hS5 hS6 hS7 hS8 hS9 hS10 hS11 hS12 hS13 hS16 hS17
    subst hA
    have HV := Lib.hid hws
    have HQ := Lib.hid hq
    have HSO := Lib.hid hso
    have HOUT := Lib.hid hout
    have hTr := hT.below hws.bel
    clear hws hq hout hso
    by_cases hq0 : 0 < q.size
    · have hqz0 : (0 : Int) < (q.size : Int) := by omega
      have hne : Hid (x.fr ≠ []) := Lib.hid (fun e => by have := rns_nil.1 (HQ.out.trans e); omega)
      have HN := Lib.hid (HQ.out ▸ nrr_any q x.fe wr hTr (by omega) HSO.out.e0 HSO.out.e1)
      obtain ⟨y, hy⟩ : ∃ y, rdS x = y := ⟨_, rfl⟩
      have hy1 : (nrr x.fr x.fe).1 = y.fr := by rw [← hy]; rfl
      have hy2 : (nrr x.fr x.fe).2.1 = y.fs := by rw [← hy]; rfl
      have hy3 : (nrr x.fr x.fe).2.2.1 = y.fe := by rw [← hy]; rfl
      have hy4 : (nrr x.fr x.fe).2.2.2 = y.fst := by rw [← hy]; rfl
      obtain ⟨o1, o2, o3⟩ := outS_ok d HSO.out hne.out
      obtain ⟨r1, r2, r3, r4, r5⟩ := rdS_ok HSO.out
      have r5 := r5 hne.out
      have hof : outF (outS x d).1.fr.length (outS x d).1 (outS x d).2 = R := by
        have e := HOUT.out
        obtain ⟨m, hm⟩ : ∃ m, x.fr.length = m + 1 := ⟨x.fr.length - 1, by omega⟩
        rw [hm] at e
        simp only [outF, if_neg hne.out] at e
        rw [← e]
        exact outF_fuel _ _ _ o1 (by omega) _ (Nat.le_refl _)
      have hcs : cnt (outS x d).2 + (outS x d).1.fr.length * 4000000 ≤ 8000000000 := by omega
      have hls : (outS x d).1.fr.length ≤ 2000 := by omega
      have HOF := Lib.hid hof
      have HO1 := Lib.hid o1
      have hos : outS x d = if y.fst = 0 then (upd y, put d y.fs y.ts) else finS (innF 3000000 y d).1 (innF 3000000 y d).2 := by unfold outS; rw [hy]
      have HOS := Lib.hid hos
      have hts1 : y.tp = x.tp ∧ y.ts = x.ts ∧ y.te = x.te ∧ y.tst = x.tst := by rw [← hy]; exact ⟨rfl, rfl, rfl, rfl⟩
      have HTS := Lib.hid hts1
      rw [hy] at r1 r2 r3 r4 r5
      have R1 := Lib.hid r1
      have R4 := Lib.hid r4
      have HY1 := Lib.hid hy1
      have HN2 : Hid (Calls Tryd.prog 40 #[.string q, .int .i32 x.fe] wr fun e w' => ∃ q1 : ByteArray, e = .returned (.tuple #[.string q1, .int .i32 y.fs, .int .i32 y.fe, .int .i32 y.fst]) ∧ rnsL q1.data.toList = y.fr ∧ q1.size ≤ q.size ∧ Below wr.heap.size wr w') := by
        refine Lib.hid (HN.out.mono ?_)
        rintro e w' ⟨q1, h1, h2, h3, h4⟩
        exact ⟨q1, by rw [h1, hy2, hy3, hy4], h2.trans hy1, h3, h4⟩
      have hcd : cnt d ≤ 8000000000 - 4000000 := by omega
      have hsg : d.sg.length ≤ 8000000000 := by unfold cnt at hcd; omega
      have hRl : d.R.length ≤ 8000000000 := by unfold cnt at hcd; omega
      clear hy hy1 hy2 hy3 hy4 r1 r4 HN hof hos o1 hts1
      go_wp2_with (go_at_call 40; with_reducible refine HN2.out.mono ?_)
      rintro e w1 ⟨q1, rfl, hq1, hq1n, hb1⟩
      have hv1 : WS p0 pb pts pte pst base 2147483647 y d vs w w1 := (HV.out.toBelow hb1).nums HTS.out.1 HTS.out.2.1 HTS.out.2.2.1 HTS.out.2.2.2
      obtain ⟨c1, c2, c3, f1, f2, f3⟩ := hv1.cells
      have HV1 := Lib.hid hv1
      have HQ1 := Lib.hid hq1
      have hs0 := hv1.ok.s0
      have hs1 := hv1.ok.s1
      clear hv1 hq1 hb1
      by_cases hz : y.fst = 0
      · have hzz : (y.fst == 0) = true := by rw [beq_iff_eq]; exact hz
        have hos : Hid (outS x d = (upd y, put d y.fs y.ts)) := Lib.hid (by rw [HOS.out, if_pos hz])
        have HA := Lib.hid (HV1.out.addC y.fs y.ts r2 r3 hs0 hs1 (by omega))
        clear hz
        dsimp only
        go_wp2_with (go_at_call 42; with_reducible refine HA.out.mono ?_)
        rintro e w2 ⟨vs2, rfl, hv2⟩
        have HU := Lib.hid (hv2.updC hT (by omega))
        clear hv2 c1 c2 c3 f1 f2 f3
        dsimp only
        go_wp2_with (go_at_call 39; with_reducible refine HU.out.mono ?_)
        rintro e w3 ⟨rfl, hv3⟩
        have HV3 := Lib.hid hv3
        clear hv3
        dsimp only
        go_wp2_with fail
        have hO1 := HO1.out
        have hOF := HOF.out
        rw [hos.out] at hO1 hls hcs hOF
        dsimp only at hO1 hls hcs hOF
        have hlt1 := o2
        rw [hos.out] at hlt1
        dsimp only at hlt1
        refine Handed.intro (upd y).fr.length hlt1 ?_
        go_step
        exact ⟨upd y, put d y.fs y.ts, vs2, q1, HV3.out, HQ1.out.trans (upd_fr y).1.symm, by omega, hO1, rfl, hls, hcs, hOF, ⟨rfl, rfl⟩, rfl, rfl, rfl, rfl, rfl, by rw [(upd_fr y).2.1]; rfl, by rw [(upd_fr y).2.2.1]; rfl, by rw [(upd_fr y).2.2.2]; rfl, rfl, rfl, rfl, rfl, rfl⟩
      · have hzz : (y.fst == 0) = false := by rw [beq_eq_false_iff_ne]; exact hz
        have hos : Hid (outS x d = finS (innF 3000000 y d).1 (innF 3000000 y d).2) := Lib.hid (by rw [HOS.out, if_neg hz])
        obtain ⟨hio, hnefe⟩ := R4.out hz
        have HIO := Lib.hid hio
        clear hz hio
        dsimp only
        go_upto_block 4 with fail
        have hfy : far y < 3000000 ∧ far y ≤ 1114111 := by
          have h0 := HIO.out.s0
          have h1 := HIO.out.s1
          have h2 := HIO.out.e0
          have h3 := HIO.out.s.e1
          unfold far
          omega
        obtain ⟨i1, i2, i3, -⟩ := innF_ok 3000000 y d HIO.out hfy.1
        have hpr : ∃ (zr : NT) (dr : TD), innF 3000000 y d = (zr, dr) := ⟨_, _, rfl⟩
        obtain ⟨zr, dr, hzr⟩ := hpr
        rw [hzr] at i1 i2 i3 hos
        dsimp only at i1 i2 i3 hos
        have I1 := Lib.hid i1
        have I3 := Lib.hid i3
        have HZR := Lib.hid hzr
        clear i1 i3 hzr hzz
        refine wp_cut (fun a wx => ∃ (vr : Value), WS p0 pb pts pte pst base 2147483647 zr dr vr w wx ∧ Fr 204 a ∧ Sl a 0 = .string q1 ∧ Sl a 3 = .pointer (some ⟨p0, 0, none⟩) ∧ Sl a 5 = .pointer (some ⟨pb, 0, none⟩) ∧ Sl a 6 = .bool rev ∧ Sl a 7 = .bool del ∧ Sl a 8 = .int .i32 zr.fs ∧ Sl a 9 = .int .i32 zr.fe ∧ Sl a 10 = .int .i32 zr.fst ∧ Sl a 11 = .pointer (some ⟨pts, 0, none⟩) ∧ Sl a 12 = .pointer (some ⟨pte, 0, none⟩) ∧ Sl a 13 = .pointer (some ⟨pst, 0, none⟩) ∧ Sl a 16 = vr ∧ Sl a 17 = .func (Fn.func 39) #[] #[.pointer (some ⟨pte, 0, none⟩), .pointer (some ⟨pst, 0, none⟩), .pointer (some ⟨p0, 0, none⟩), .pointer (some ⟨pts, 0, none⟩)]) ?restB ?firstB
        case firstB =>
          intro JB KB hJB hKB
          go_wp2_with fail
          refine wp_loop_ghost_k (fun g a wr => ∃ (z : NT) (dz : TD) (vz : Value) (k : Nat), WS p0 pb pts pte pst base 2147483647 z dz vz w wr ∧ IOk z ∧ far z < k ∧ innF k z dz = (zr, dr) ∧ g = far z ∧ cnt dz + 2 * far z ≤ cnt d + 2 * far y ∧ Fr 204 a ∧ Sl a 0 = .string q1 ∧ Sl a 3 = .pointer (some ⟨p0, 0, none⟩) ∧ Sl a 5 = .pointer (some ⟨pb, 0, none⟩) ∧ Sl a 6 = .bool rev ∧ Sl a 7 = .bool del ∧ Sl a 8 = .int .i32 z.fs ∧ Sl a 9 = .int .i32 z.fe ∧ Sl a 10 = .int .i32 z.fst ∧ Sl a 11 = .pointer (some ⟨pts, 0, none⟩) ∧ Sl a 12 = .pointer (some ⟨pte, 0, none⟩) ∧ Sl a 13 = .pointer (some ⟨pst, 0, none⟩) ∧ Sl a 16 = vz ∧ Sl a 17 = .func (Fn.func 39) #[] #[.pointer (some ⟨pte, 0, none⟩), .pointer (some ⟨pst, 0, none⟩), .pointer (some ⟨p0, 0, none⟩), .pointer (some ⟨pts, 0, none⟩)]) (far y) ?atStart ?round
          case atStart => exact ⟨y, d, vs, 3000000, HV1.out, HIO.out, hfy.1, HZR.out, rfl, Nat.le_refl _, ⟨rfl, rfl⟩, rfl, rfl, rfl, rfl, rfl, rfl, rfl, rfl, rfl, rfl, rfl, rfl, rfl⟩
          case round =>
            intro gi a wr hinv JI KI hJI hKI
            clear HV1 HZR c1 c2 c3 f1 f2 f3 hs0 hs1
            obtain ⟨z, dz, vz, k, hws, hio, hk, hinn, rfl, hcz, hFr, hS0, hS3, hS5, hS6, hS7, hS8, hS9, hS10, hS11, hS12, hS13, hS16, hS17⟩ := hinv
            obtain ⟨f, hf, hA⟩ := lit204 a hFr
            rw [hf] at hS0 hS3 hS5 hS6 hS7 hS8 hS9 hS10 hS11 hS12 hS13 hS16 hS17
            rw [hS0, hS3, hS5, hS6, hS7, hS8, hS9, hS10, hS11, hS12, hS13, hS16, hS17] at hA
            clear hf hFr hS0 hS3 hS5 hS6 hS7 hS8 hS9 hS10 hS11 hS12 hS13 hS16 hS17
            subst hA
            obtain ⟨c1, c2, c3, f1, f2, f3⟩ := hws.cells
            have HV2 := Lib.hid hws
            have HI := Lib.hid hio
            have HIN := Lib.hid hinn
            have t0 := hws.ok.s0
            have t1 := hws.ok.s1
            have t2 := hws.ok.e0
            have t3 := hws.ok.e1
            have a0 := hio.s0
            have a1 := hio.s1
            have a2 := hio.e0
            have a3 := hio.s.e1
            have hdz1 : dz.sg.length ≤ 9000000000 := by unfold cnt at hcz hcd; omega
            have hdz2 : dz.R.length ≤ 9000000000 := by unfold cnt at hcz hcd; omega
            clear hws hio hinn
            by_cases hte : z.te = -1
            · have hq1 : (z.te != -1) = false := by rw [bne_eq_false_iff_eq]; exact hte
              have hz := innF_stop k z dz (fun y => y.1 hte)
              rw [HIN.out] at hz
              injection hz with hz1 hz2
              subst hz1
              subst hz2
              clear hte
              go_wp2_with fail
              refine Met.intro ?_
              go_step
              exact ⟨vz, HV2.out, ⟨rfl, rfl⟩, rfl, rfl, rfl, rfl, rfl, rfl, rfl, rfl, rfl, rfl, rfl, rfl, rfl⟩
            have hq1 : (z.te != -1) = true := by rw [bne_iff_ne]; exact hte
            by_cases hfe : z.fs = z.fe
            · have hq2 : (z.fs != z.fe) = false := by rw [bne_eq_false_iff_eq]; exact hfe
              have hz := innF_stop k z dz (fun y => y.2 hfe)
              rw [HIN.out] at hz
              injection hz with hz1 hz2
              subst hz1
              subst hz2
              clear hte hfe
              go_wp2_with fail
              refine Met.intro ?_
              go_step
              exact ⟨vz, HV2.out, ⟨rfl, rfl⟩, rfl, rfl, rfl, rfl, rfl, rfl, rfl, rfl, rfl, rfl, rfl, rfl, rfl⟩
            have hq2 : (z.fs != z.fe) = true := by rw [bne_iff_ne]; exact hfe
            obtain ⟨n1, n2, n3, n4, n5⟩ := innS_ok dz HI.out hte hfe
            have hgo := innF_go k z dz hk hte hfe HI.out
            rw [HIN.out] at hgo
            have hfar : 1 ≤ far z := (HI.out.sizes hte hfe).2.1
            by_cases ht : z.tst = 0
            · have hq3 : (z.tst == 0) = true := by rw [beq_iff_eq]; exact ht
              obtain ⟨b0, b1, b2, b3⟩ := HI.out.next hfe
              have hb0 : (-2147483648 : Int) ≤ z.fs + z.fst := by omega
              have hb1 : z.fs + z.fst ≤ 2147483647 := by omega
              have HA := Lib.hid (HV2.out.addC z.fs z.ts a0 a1 t0 t1 (by omega))
              by_cases heq : z.fs + z.fst = z.fe
              · have hq4 : (z.fs + z.fst == z.fe) = true := by rw [beq_iff_eq]; exact heq
                have hS : innS z dz = (upd { upd z with fs := z.fs + z.fst }, put (put dz z.fs z.ts) (z.fs + z.fst) (upd z).ts, true) := by unfold innS; rw [if_pos ht, if_pos heq]
                rw [hS] at n1 n2 n3 n4 n5 hgo
                dsimp only at n1 n2 n3 n4 n5 hgo
                rw [if_pos rfl] at hgo
                have N1 := Lib.hid n1
                have N2 := Lib.hid (n2 rfl)
                have HGO := Lib.hid hgo
                clear hte hfe ht heq n1 n2 n3 n5 hgo hS b2 b3
                go_wp2_with (go_at_call 42; with_reducible refine HA.out.mono ?_)
                rintro e w2 ⟨v2, rfl, hv2⟩
                have HU := Lib.hid (hv2.updC hT (by omega))
                clear hv2 c1 c2 c3 f1 f2 f3
                dsimp only
                go_wp2_with (go_at_call 39; with_reducible refine HU.out.mono ?_)
                rintro e w3 ⟨rfl, hv3⟩
                obtain ⟨c1, c2, c3, f1, f2, f3⟩ := hv3.cells
                have HA2 := Lib.hid ((hv3.nums (y := { upd z with fs := z.fs + z.fst }) rfl rfl rfl rfl).addC (z.fs + z.fst) (upd z).ts b0 b1 hv3.ok.s0 hv3.ok.s1 (by simp only [put, List.length_append, List.length_singleton]; omega))
                clear hv3
                dsimp only
                go_wp2_with (go_at_call 42; with_reducible refine HA2.out.mono ?_)
                rintro e w4 ⟨v4, rfl, hv4⟩
                have HU2 := Lib.hid (hv4.updC hT (by omega))
                clear hv4 c1 c2 c3 f1 f2 f3
                dsimp only
                go_wp2_with (go_at_call 39; with_reducible refine HU2.out.mono ?_)
                rintro e w5 ⟨rfl, hv5⟩
                have HV5 := Lib.hid hv5
                clear hv5
                dsimp only
                go_wp2_with fail
                refine Handed.intro (far (upd { upd z with fs := z.fs + z.fst })) N2.out ?_
                go_step
                exact ⟨upd { upd z with fs := z.fs + z.fst }, _, v4, k - 1, HV5.out, N1.out, lt_step N2.out hk, HGO.out.symm, rfl, cnt_step n4 N2.out hcz, ⟨rfl, rfl⟩, rfl, rfl, rfl, rfl, rfl, by rw [(upd_fr _).2.1]; rfl, by rw [(upd_fr _).2.2.1]; show _ = Value.int .i32 (upd z).fe; rw [(upd_fr z).2.2.1]; rfl, by rw [(upd_fr _).2.2.2]; show _ = Value.int .i32 (upd z).fst; rw [(upd_fr z).2.2.2]; rfl, rfl, rfl, rfl, rfl, rfl⟩
              · have hq4 : (z.fs + z.fst == z.fe) = false := by rw [beq_eq_false_iff_ne]; exact heq
                have hS : innS z dz = ({ upd z with fs := z.fs + z.fst }, put dz z.fs z.ts, true) := by unfold innS; rw [if_pos ht, if_neg heq]
                rw [hS] at n1 n2 n3 n4 n5 hgo
                dsimp only at n1 n2 n3 n4 n5 hgo
                rw [if_pos rfl] at hgo
                have N1 := Lib.hid n1
                have N2 := Lib.hid (n2 rfl)
                have HGO := Lib.hid hgo
                clear hte hfe ht heq n1 n2 n3 n5 hgo hS b2 b3
                go_wp2_with (go_at_call 42; with_reducible refine HA.out.mono ?_)
                rintro e w2 ⟨v2, rfl, hv2⟩
                have HU := Lib.hid (hv2.updC hT (by omega))
                clear hv2 c1 c2 c3 f1 f2 f3
                dsimp only
                go_wp2_with (go_at_call 39; with_reducible refine HU.out.mono ?_)
                rintro e w3 ⟨rfl, hv3⟩
                have HV3 := Lib.hid (hv3.nums (y := { upd z with fs := z.fs + z.fst }) rfl rfl rfl rfl)
                clear hv3
                dsimp only
                go_wp2_with fail
                refine Handed.intro (far { upd z with fs := z.fs + z.fst }) N2.out ?_
                go_step
                exact ⟨{ upd z with fs := z.fs + z.fst }, _, v2, k - 1, HV3.out, N1.out, lt_step N2.out hk, HGO.out.symm, rfl, cnt_step n4 N2.out hcz, ⟨rfl, rfl⟩, rfl, rfl, rfl, rfl, rfl, rfl, by show _ = Value.int .i32 (upd z).fe; rw [(upd_fr z).2.2.1]; rfl, by show _ = Value.int .i32 (upd z).fst; rw [(upd_fr z).2.2.2]; rfl, rfl, rfl, rfl, rfl, rfl⟩
            have hq3 : (z.tst == 0) = false := by rw [beq_eq_false_iff_ne]; exact ht
            obtain ⟨k1, k2, k3, k4⟩ := HI.out.sizes hte hfe
            obtain ⟨k5, k6, k7⟩ := k4 ht
            have hst : z.fst = 1 ∨ z.fst = -1 := by have := HI.out.st; omega
            have htst : z.tst = 1 ∨ z.tst = -1 := by omega
            have hd1 : -1114111 ≤ z.fe - z.fs ∧ z.fe - z.fs ≤ 1114111 := by omega
            have hd2 : -1114111 ≤ z.te - z.ts ∧ z.te - z.ts ≤ 1114111 := by omega
            obtain ⟨d1, d2⟩ := hd1
            obtain ⟨d3, d4⟩ := hd2
            by_cases hlt : (z.te - z.ts) * z.tst < (z.fe - z.fs) * z.fst
            · obtain ⟨b0, b1, b2, b3, b4, b5⟩ := HI.out.jump hte hfe ht hlt
              have hS : innS z dz = (if z.fs + (z.te - z.ts) * z.tst * z.fst + z.fst = z.fe then
                  (upd (upd { z with fs := z.fs + (z.te - z.ts) * z.tst * z.fst + z.fst, ts := z.te }), put (putR dz z.fs (z.fs + (z.te - z.ts) * z.tst * z.fst) z.ts z.te) (z.fs + (z.te - z.ts) * z.tst * z.fst + z.fst) (upd { z with fs := z.fs + (z.te - z.ts) * z.tst * z.fst + z.fst, ts := z.te }).ts, true)
                else (upd { z with fs := z.fs + (z.te - z.ts) * z.tst * z.fst + z.fst, ts := z.te }, putR dz z.fs (z.fs + (z.te - z.ts) * z.tst * z.fst) z.ts z.te, true)) := by unfold innS; rw [if_neg ht, if_pos hlt]
              obtain ⟨T, hTT⟩ : ∃ T, (z.te - z.ts) * z.tst = T := ⟨_, rfl⟩
              obtain ⟨F, hFF⟩ : ∃ F, (z.fe - z.fs) * z.fst = F := ⟨_, rfl⟩
              rw [hTT, hFF] at hlt
              rw [hTT] at hS b0 b1 b2 b3 b4 b5 k5 k6
              rw [hFF] at k1
              obtain ⟨TF, hTF⟩ : ∃ TF, T * z.fst = TF := ⟨_, rfl⟩
              rw [hTF] at hS b0 b1 b2 b3 b4 b5
              obtain ⟨e0, he⟩ : ∃ e0, z.fs + TF = e0 := ⟨_, rfl⟩
              have he1 : e0 + z.fst = z.fs + TF + z.fst := by rw [← he]
              rw [he] at hS b0 b1 b4 b5
              have g0 := b4.s0
              have g1 := b4.s1
              dsimp only at g0 g1
              have hF2 : F ≤ 1114111 := by omega
              have HA := Lib.hid (HV2.out.addGC z.fs e0 z.ts z.te (by omega) (by omega))
              have HNT := Lib.hid b4.s.nt
              have HB4 := Lib.hid b4
              have HB5 := Lib.hid b5
              have hlt' : T < F := hlt
              clear hte hfe ht k1 k2 k4 k7 hlt hst htst b4 b5 he1
              go_wp2_with (go_at_call 43; with_reducible refine HA.out.mono ?_)
              rintro e w2 ⟨rfl, hv2⟩
              obtain ⟨c1', c2', c3', f1', f2', f3'⟩ := hv2.cells
              have H2 := Lib.hid (hv2.setTs z.te (HNT.out.nums rfl rfl rfl rfl))
              clear hv2 c1 c2 c3 f1 f2 f3
              dsimp only
              have HU := Lib.hid ((H2.out.nums (y := { z with fs := e0 + z.fst, ts := z.te }) rfl rfl rfl rfl).updC hT (by omega))
              have hcp := cnt_putR dz z.fs e0 z.ts z.te
              have hp1 : (putR dz z.fs e0 z.ts z.te).sg.length ≤ 9000000000 := by simp only [putR]; omega
              clear hcp
              by_cases heq : e0 + z.fst = z.fe
              · have hq4 : (e0 + z.fst == z.fe) = true := by rw [beq_iff_eq]; exact heq
                rw [if_pos heq] at hS
                rw [hS] at n1 n2 n3 n4 n5 hgo
                dsimp only at n1 n2 n3 n4 n5 hgo
                rw [if_pos rfl] at hgo
                have N1 := Lib.hid n1
                have N2 := Lib.hid (n2 rfl)
                have HGO := Lib.hid hgo
                clear heq n1 n2 n3 n5 hgo hS
                go_wp2_with (go_at_call 39; with_reducible refine HU.out.mono ?_)
                rintro e w3 ⟨rfl, hv3⟩
                obtain ⟨c1, c2, c3, f1, f2, f3⟩ := hv3.cells
                have HA2 := Lib.hid (hv3.addC (e0 + z.fst) (upd { z with fs := e0 + z.fst, ts := z.te }).ts g0 g1 hv3.ok.s0 hv3.ok.s1 (by omega))
                clear hv3 c1' c2' c3' f1' f2' f3'
                dsimp only
                go_wp2_with (go_at_call 42; with_reducible refine HA2.out.mono ?_)
                rintro e w4 ⟨v4, rfl, hv4⟩
                have HU2 := Lib.hid (hv4.updC hT (by omega))
                clear hv4 c1 c2 c3 f1 f2 f3
                dsimp only
                go_wp2_with (go_at_call 39; with_reducible refine HU2.out.mono ?_)
                rintro e w5 ⟨rfl, hv5⟩
                have HV5 := Lib.hid hv5
                clear hv5
                dsimp only
                go_wp2_with fail
                refine Handed.intro (far (upd (upd { z with fs := e0 + z.fst, ts := z.te }))) N2.out ?_
                go_step
                exact ⟨upd (upd { z with fs := e0 + z.fst, ts := z.te }), _, v4, k - 1, HV5.out, N1.out, lt_step N2.out hk, HGO.out.symm, rfl, cnt_step n4 N2.out hcz, ⟨rfl, rfl⟩, rfl, rfl, rfl, rfl, rfl, by rw [(upd_fr _).2.1, (upd_fr _).2.1]; rfl, by rw [(upd_fr _).2.2.1, (upd_fr _).2.2.1]; rfl, by rw [(upd_fr _).2.2.2, (upd_fr _).2.2.2]; rfl, rfl, rfl, rfl, rfl, rfl⟩
              · have hq4 : (e0 + z.fst == z.fe) = false := by rw [beq_eq_false_iff_ne]; exact heq
                rw [if_neg heq] at hS
                rw [hS] at n1 n2 n3 n4 n5 hgo
                dsimp only at n1 n2 n3 n4 n5 hgo
                rw [if_pos rfl] at hgo
                have N1 := Lib.hid n1
                have N2 := Lib.hid (n2 rfl)
                have HGO := Lib.hid hgo
                clear heq n1 n2 n3 n5 hgo hS
                go_wp2_with (go_at_call 39; with_reducible refine HU.out.mono ?_)
                rintro e w3 ⟨rfl, hv3⟩
                have HV3 := Lib.hid hv3
                clear hv3 c1' c2' c3' f1' f2' f3'
                dsimp only
                go_wp2_with fail
                refine Handed.intro (far (upd { z with fs := e0 + z.fst, ts := z.te })) N2.out ?_
                go_step
                exact ⟨upd { z with fs := e0 + z.fst, ts := z.te }, _, vz, k - 1, HV3.out, N1.out, lt_step N2.out hk, HGO.out.symm, rfl, cnt_step n4 N2.out hcz, ⟨rfl, rfl⟩, rfl, rfl, rfl, rfl, rfl, by rw [(upd_fr _).2.1]; rfl, by rw [(upd_fr _).2.2.1]; rfl, by rw [(upd_fr _).2.2.2]; rfl, rfl, rfl, rfl, rfl, rfl⟩
            obtain ⟨b0, b1, b2, b3, b4, b5⟩ := HI.out.last hte hfe ht hlt
            have hS : innS z dz = (upd { z with fs := z.fe, ts := z.ts + (z.fe - z.fs) * z.fst * z.tst }, putR dz z.fs z.fe z.ts (z.ts + (z.fe - z.fs) * z.fst * z.tst), false) := by unfold innS; rw [if_neg ht, if_neg hlt]
            obtain ⟨T, hTT⟩ : ∃ T, (z.te - z.ts) * z.tst = T := ⟨_, rfl⟩
            obtain ⟨F, hFF⟩ : ∃ F, (z.fe - z.fs) * z.fst = F := ⟨_, rfl⟩
            rw [hTT, hFF] at hlt
            rw [hTT] at k5 k6
            rw [hFF] at hS b0 b1 b2 b3 b4 b5 k1
            obtain ⟨FT, hFT⟩ : ∃ FT, F * z.tst = FT := ⟨_, rfl⟩
            rw [hFT] at hS b0 b1 b2 b3 b4 b5
            obtain ⟨e0, he⟩ : ∃ e0, z.ts + FT = e0 := ⟨_, rfl⟩
            rw [he] at hS b0 b1 b4 b5
            have hF1 : (0 : Int) ≤ F := by omega
            have hF2 : F ≤ 1114111 := by omega
            rw [hS] at n1 n2 n3 n4 n5 hgo
            dsimp only at n1 n2 n3 n4 n5 hgo
            rw [if_neg (by simp)] at hgo
            have HA := Lib.hid (HV2.out.addGC z.fs z.fe z.ts e0 (by omega) (by omega))
            have HNT := Lib.hid b4
            have N1 := Lib.hid n1
            have HGO := Lib.hid hgo
            have hlt' : ¬ T < F := hlt
            clear hte hfe ht k1 k2 k4 k7 hlt hst htst b4 b5 n1 n2 n3 n5 hgo hS
            go_wp2_with (go_at_call 43; with_reducible refine HA.out.mono ?_)
            rintro e w2 ⟨rfl, hv2⟩
            obtain ⟨c1', c2', c3', f1', f2', f3'⟩ := hv2.cells
            have HU := Lib.hid (((hv2.setTs e0 HNT.out).nums (y := { z with fs := z.fe, ts := e0 }) rfl rfl rfl rfl).updC hT (by omega))
            clear hv2 c1 c2 c3 f1 f2 f3
            dsimp only
            go_wp2_with (go_at_call 39; with_reducible refine HU.out.mono ?_)
            rintro e w3 ⟨rfl, hv3⟩
            have HV3 := Lib.hid hv3
            clear hv3 c1' c2' c3' f1' f2' f3'
            dsimp only
            injection HGO.out with hz1 hz2
            subst hz1
            subst hz2
            go_wp2_with fail
            refine Met.intro ?_
            go_step
            exact ⟨vz, HV3.out, ⟨rfl, rfl⟩, rfl, rfl, rfl, rfl, rfl, by rw [(upd_fr _).2.1]; rfl, by rw [(upd_fr _).2.2.1]; rfl, by rw [(upd_fr _).2.2.2]; rfl, rfl, rfl, rfl, rfl, rfl⟩
            
        case restB =>
        intro a wx hcut
        obtain ⟨vr, hws, hFr, hS0, hS3, hS5, hS6, hS7, hS8, hS9, hS10, hS11, hS12, hS13, hS16, hS17⟩ := hcut
        obtain ⟨f, hf, hA⟩ := lit204 a hFr
        rw [hf] at hS0 hS3 hS5 hS6 hS7 hS8 hS9 hS10 hS11 hS12 hS13 hS16 hS17
        rw [hS0, hS3, hS5, hS6, hS7, hS8, hS9, hS10, hS11, hS12, hS13, hS16, hS17] at hA
        clear hf hFr hS0 hS3 hS5 hS6 hS7 hS8 hS9 hS10 hS11 hS12 hS13 hS16 hS17
        subst hA
        obtain ⟨c1, c2, c3, f1, f2, f3⟩ := hws.cells
        have HV2 := Lib.hid hws
        have hcr : cnt dr ≤ 8000000000 := by omega
        have hdr1 : dr.sg.length ≤ 9000000000 := by unfold cnt at hcr; omega
        have hdr2 : dr.R.length ≤ 9000000000 := by unfold cnt at hcr; omega
        have hfr : Hid (zr.fr = y.fr) := I3
        clear hws hcr
        by_cases heq : zr.fs = zr.fe
        · have hq4 : (zr.fs == zr.fe) = true := by rw [beq_iff_eq]; exact heq
          have hos : Hid (outS x d = ({ zr with fe := -1 }, dr)) := Lib.hid (by rw [hos.out]; unfold finS; rw [if_pos heq])
          clear heq
          go_wp2_with fail
          have hO1 := HO1.out
          have hOF := HOF.out
          rw [hos.out] at hO1 hls hcs hOF
          dsimp only at hO1 hls hcs hOF
          have hlt1 := o2
          rw [hos.out] at hlt1
          dsimp only at hlt1
          refine Handed.intro ({ zr with fe := -1 }).fr.length hlt1 ?_
          go_step
          exact ⟨{ zr with fe := -1 }, dr, vr, q1, HV2.out.nums rfl rfl rfl rfl, HQ1.out.trans hfr.out.symm, by omega, hO1, rfl, hls, hcs, hOF, ⟨rfl, rfl⟩, rfl, rfl, rfl, rfl, rfl, rfl, rfl, rfl, rfl, rfl, rfl, rfl, rfl⟩
        · have hq4 : (zr.fs == zr.fe) = false := by rw [beq_eq_false_iff_ne]; exact heq
          have hos : Hid (outS x d = ({ zr with fe := -1 }, putR dr zr.fs zr.fe zr.ts zr.ts)) := Lib.hid (by rw [hos.out]; unfold finS; rw [if_neg heq])
          have HA := Lib.hid (HV2.out.addGC zr.fs zr.fe zr.ts zr.ts (by omega) (by omega))
          clear heq
          go_wp2_with (go_at_call 43; with_reducible refine HA.out.mono ?_)
          rintro e w2 ⟨rfl, hv2⟩
          obtain ⟨c1', c2', c3', f1', f2', f3'⟩ := hv2.cells
          have H2 := Lib.hid (hv2.setTs zr.ts (hv2.ok.nums rfl rfl rfl rfl))
          clear hv2 c1 c2 c3 f1 f2 f3
          dsimp only
          go_wp2_with fail
          have hO1 := HO1.out
          have hOF := HOF.out
          rw [hos.out] at hO1 hls hcs hOF
          dsimp only at hO1 hls hcs hOF
          have hlt1 := o2
          rw [hos.out] at hlt1
          dsimp only at hlt1
          refine Handed.intro ({ zr with fe := -1 }).fr.length hlt1 ?_
          go_step
          exact ⟨{ zr with fe := -1 }, putR dr zr.fs zr.fe zr.ts zr.ts, vr, q1, H2.out.nums rfl rfl rfl rfl, HQ1.out.trans hfr.out.symm, by omega, hO1, rfl, hls, hcs, hOF, ⟨rfl, rfl⟩, rfl, rfl, rfl, rfl, rfl, rfl, rfl, rfl, rfl, rfl, rfl, rfl, rfl⟩
    · have hqz0 : ¬ (0 : Int) < (q.size : Int) := by omega
      have hfr0 : x.fr = [] := HQ.out.symm.trans (rns_nil.2 (by omega))
      have hRx : R = (x, d) := by
        have e := HOUT.out
        rw [hfr0] at e
        exact e.symm
      subst hRx
      obtain ⟨c1, c2, c3, f1, f2, f3⟩ := HV.out.cells
      have n7 := HV.out.b1.2
      have n8 := n7.symm
      have t0 := HV.out.ok.s0
      have t1 := HV.out.ok.s1
      have a3 := HSO.out.e1
      have hdl1 : d.sg.length ≤ 9000000000 := by unfold cnt at hcnt; omega
      clear hfr0
      by_cases hfe : x.fe = -1
      · have hq1 : (x.fe != -1) = false := by rw [bne_eq_false_iff_eq]; exact hfe
        have hte : Hid (trEnd x d = (d, x.ts)) := Lib.hid (by unfold trEnd; rw [if_neg (fun y => y hfe)])
        clear hfe
        have hVV := HV.out
        obtain ⟨vq, vm, vr, hqq⟩ := hVV.tr
        obtain ⟨hfz, x3, x4, x5, x6⟩ := hqq.flagCells
        have z3 := hfz 3
        have z4 := hfz 4
        have z5 := hfz 5
        have z6 := hfz 6
        have HQQ := Lib.hid hqq
        have HBL := Lib.hid hVV.bel
        clear hfz hqq
        by_cases hdl : del = true
        · subst hdl
          go_wp2_with fail
          go_ret
          exact ⟨pb, base, _, vq, vm, vr, rfl, by rw [HRES.out, HFLG.out, hte.out, if_pos (by simp)]; exact ((((HQQ.out.set4 rev).set5 true).set3 (-1)).set6 true).set3 x.ts, hob, ((((HBL.out.setCell hob _).setCell hob _).setCell hob _).setCell hob _).setCell hob _⟩
        have hdl' : del = false := by cases del; rfl; exact absurd rfl hdl
        subst hdl'
        by_cases hrv : rev = true
        · subst hrv
          go_wp2_with fail
          go_ret
          exact ⟨pb, base, _, vq, vm, vr, rfl, by rw [HRES.out, HFLG.out, hte.out, if_pos (by simp)]; exact ((((HQQ.out.set4 true).set5 false).set3 (-1)).set6 true).set3 x.ts, hob, ((((HBL.out.setCell hob _).setCell hob _).setCell hob _).setCell hob _).setCell hob _⟩
        have hrv' : rev = false := by cases rev; rfl; exact absurd rfl hrv
        subst hrv'
        go_wp2_with fail
        go_ret
        exact ⟨pb, base, _, vq, vm, vr, rfl, by rw [HRES.out, HFLG.out, hte.out, if_neg (by simp)]; exact (((HQQ.out.set4 false).set5 false).set3 (-1)).set6 true, hob, (((HBL.out.setCell hob _).setCell hob _).setCell hob _).setCell hob _⟩
      · have hq1 : (x.fe != -1) = true := by rw [bne_iff_ne]; exact hfe
        have hte : Hid (trEnd x d = (put d x.fe x.ts, x.ts)) := Lib.hid (by unfold trEnd; rw [if_pos hfe])
        have HA := Lib.hid (HV.out.addC x.fe x.ts (by have := HSO.out.e0; omega) a3 t0 t1 (by omega))
        clear hfe
        go_wp2_with (go_at_call 42; with_reducible refine HA.out.mono ?_)
        rintro e w2 ⟨v2, rfl, hv2⟩
        obtain ⟨c1', c2', c3', f1', f2', f3'⟩ := hv2.cells
        clear c1 c2 c3 f1 f2 f3
        dsimp only
        go_upto_region 54 with fail
        obtain ⟨vq, vm, vr, hqq⟩ := hv2.tr
        obtain ⟨hfz, x3, x4, x5, x6⟩ := hqq.flagCells
        have z3 := hfz 3
        have z4 := hfz 4
        have z5 := hfz 5
        have z6 := hfz 6
        have HQQ := Lib.hid hqq
        have HBL := Lib.hid hv2.bel
        clear hfz hqq
        by_cases hdl : del = true
        · subst hdl
          go_wp2_with fail
          go_ret
          exact ⟨pb, base, _, vq, vm, vr, rfl, by rw [HRES.out, HFLG.out, hte.out, if_pos (by simp)]; exact ((((HQQ.out.set4 rev).set5 true).set3 (-1)).set6 true).set3 x.ts, hob, ((((HBL.out.setCell hob _).setCell hob _).setCell hob _).setCell hob _).setCell hob _⟩
        have hdl' : del = false := by cases del; rfl; exact absurd rfl hdl
        subst hdl'
        by_cases hrv : rev = true
        · subst hrv
          go_wp2_with fail
          go_ret
          exact ⟨pb, base, _, vq, vm, vr, rfl, by rw [HRES.out, HFLG.out, hte.out, if_pos (by simp)]; exact ((((HQQ.out.set4 true).set5 false).set3 (-1)).set6 true).set3 x.ts, hob, ((((HBL.out.setCell hob _).setCell hob _).setCell hob _).setCell hob _).setCell hob _⟩
        have hrv' : rev = false := by cases rev; rfl; exact absurd rfl hrv
        subst hrv'
        go_wp2_with fail
        go_ret
        exact ⟨pb, base, _, vq, vm, vr, rfl, by rw [HRES.out, HFLG.out, hte.out, if_neg (by simp)]; exact (((HQQ.out.set4 false).set5 false).set3 (-1)).set6 true, hob, (((HBL.out.setCell hob _).setCell hob _).setCell hob _).setCell hob _⟩


set_option maxRecDepth 100000 in
/-- of an empty first pattern: a translator without patterns -/
theorem newT_nil (s t : ByteArray) (w : World) (hs : s.size = 0) :
    Calls Tryd.prog 27 #[.string s, .string t] w fun e w' => ∃ pb, e = .returned (.pointer (some ⟨pb, 0, none⟩)) ∧ w.heap.size ≤ pb ∧ Below w.heap.size w w' ∧
      w'.heap[pb]? = some (.cells #[.pointer none, .map none, .slice none 0 0, .int .i32 0, .bool false, .bool false, .bool false] 58 (0, 0)) := by
  have hse : s.toList.isEmpty = true := by
    rw [ByteArray.toList_eq, List.eq_nil_of_length_eq_zero (l := s.data.toList) (by rw [← Lib.size_eq]; exact hs)]; rfl
  clear hs
  go_enter Tryd.func27, Tryd.ntmps27
  go_wp2
  go_ret
  refine ⟨w.heap.size + 1, rfl, by omega, ((Below.refl _ w).alloc (Nat.le_refl _) _).alloc (by simp) _, ?_⟩
  have := heap_alloc_new (w.alloc (.cells #[.string t] 9)) (.cells #[.pointer none, .map none, .slice none 0 0, .int .i32 0, .bool false, .bool false, .bool false] 58)
  simpa using this
end Go.Proofs.YtdgaehkfdaacjaaDoor
