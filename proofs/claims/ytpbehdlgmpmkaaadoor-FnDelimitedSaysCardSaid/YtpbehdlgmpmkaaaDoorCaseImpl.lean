/- The thin functions over strcase, by the one that they call. -/
import Derived.Test.YtpbehdlgmpmkaaaDoorDelim
import Derived.Test.YtpbehdlgmpmkaaaDoorUpper
import Derived.Test.YtpbehdlgmpmkaaaDoorPlainC
set_option linter.unusedVariables false
namespace Go.Proofs.YtpbehdlgmpmkaaaDoor
open Go.RowKit Plain

/-- what strcase makes of a text -/
def delS (d : UInt8) (ign : ByteArray) (scr : Bool) (s : ByteArray) : ByteArray := ⟨(dgo d ign.data.toList scr none (Lib.trimSpaceD s.data.toList)).toArray⟩
theorem outB_len (d : UInt8) (ign : List UInt8) (scr : Bool) (p : Option UInt8) (b : UInt8) (nx : Option UInt8) : (outB d ign scr p b nx).length ≤ 3 := by
  have ht : ∀ v, (tailO d ign v).length = 1 := fun v => by unfold tailO; split <;> rfl
  cases nx with
  | none => show (tailO d ign _).length ≤ 3; rw [ht]; decide
  | some n =>
    simp only [outB]
    split
    · split <;> split <;> simp
    · rw [ht]; decide
theorem dgo_len (d : UInt8) (ign : List UInt8) (scr : Bool) : ∀ (l : List UInt8) (p : Option UInt8), (dgo d ign scr p l).length ≤ 3 * l.length
  | [], _ => by simp [dgo]
  | b :: l, p => by
    have h1 := outB_len d ign scr p b l.head?
    have h2 := dgo_len d ign scr l (some b)
    rw [dgo, List.length_append, List.length_cons]
    omega
theorem delS_size (d : UInt8) (ign : ByteArray) (scr : Bool) (s : ByteArray) : (delS d ign scr s).size ≤ 3 * s.size := by
  have h1 := dgo_len d ign.data.toList scr (Lib.trimSpaceD s.data.toList) none
  have h2 := trim_le s.data.toList
  rw [Lib.size_eq, Lib.size_eq]
  simp only [delS]
  omega
theorem delim_z (s ign : ByteArray) (d : UInt8) (z : Int) (hz : z = (d.toNat : Int)) (scr : Bool) (w : World) (hs : s.size ≤ 2147483647) (hi : ign.size ≤ 2147483647) (hT : STab w) :
    Calls Tryd.prog 20 #[.string s, .int .u8 z, .string ign, .bool scr] w fun e w' => e = .returned (.string (delS d ign scr s)) ∧ Below w.heap.size w w' := by
  subst hz
  exact delim_any s ign d scr w hs hi hT
set_option maxRecDepth 100000 in
theorem sDelim (s : ByteArray) (d : UInt8) (z : Int) (hz : z = (d.toNat : Int)) (w : World) (hs : s.size ≤ 2147483647) (hT : STab w) :
    Calls Tryd.prog 34 #[.string s, .int .u8 z] w fun e w' => e = .returned (.string (delS d ⟨#[]⟩ false s)) ∧ Below w.heap.size w w' := by
  have C := Lib.hid (fun w (hT : STab w) => delim_z s ⟨#[]⟩ d z hz false w hs (by decide) hT)
  clear hz
  go_enter Tryd.func34, Tryd.ntmps34
  go_wp2_with (go_at_call 20; (with_reducible refine (C.out _ hT).mono ?_); rintro e w1 ⟨rfl, hb⟩; dsimp only)
  go_wp2
  go_ret
  exact ⟨rfl, hb⟩
set_option maxRecDepth 100000 in
theorem sSnake (s : ByteArray) (w : World) (hs : s.size ≤ 2147483647) (hT : STab w) :
    Calls Tryd.prog 29 #[.string s] w fun e w' => e = .returned (.string (delS 95 ⟨#[]⟩ false s)) ∧ Below w.heap.size w w' := by
  have C := Lib.hid (fun w (hT : STab w) => sDelim s 95 95 rfl w hs hT)
  go_enter Tryd.func29, Tryd.ntmps29
  go_wp2_with (go_at_call 34; (with_reducible refine (C.out _ hT).mono ?_); rintro e w1 ⟨rfl, hb⟩; dsimp only)
  go_wp2
  go_ret
  exact ⟨rfl, hb⟩
set_option maxRecDepth 100000 in
theorem sKebab (s : ByteArray) (w : World) (hs : s.size ≤ 2147483647) (hT : STab w) :
    Calls Tryd.prog 31 #[.string s] w fun e w' => e = .returned (.string (delS 45 ⟨#[]⟩ false s)) ∧ Below w.heap.size w w' := by
  have C := Lib.hid (fun w (hT : STab w) => sDelim s 45 45 rfl w hs hT)
  go_enter Tryd.func31, Tryd.ntmps31
  go_wp2_with (go_at_call 34; (with_reducible refine (C.out _ hT).mono ?_); rintro e w1 ⟨rfl, hb⟩; dsimp only)
  go_wp2
  go_ret
  exact ⟨rfl, hb⟩
set_option maxRecDepth 100000 in
theorem sSSnake (s : ByteArray) (w : World) (hs : s.size ≤ 2147483647) (hT : STab w) :
    Calls Tryd.prog 32 #[.string s] w fun e w' => e = .returned (.string (delS 95 ⟨#[]⟩ true s)) ∧ Below w.heap.size w w' := by
  have C := Lib.hid (fun w (hT : STab w) => delim_z s ⟨#[]⟩ 95 95 rfl true w hs (by decide) hT)
  go_enter Tryd.func32, Tryd.ntmps32
  go_wp2_with (go_at_call 20; (with_reducible refine (C.out _ hT).mono ?_); rintro e w1 ⟨rfl, hb⟩; dsimp only)
  go_wp2
  go_ret
  exact ⟨rfl, hb⟩
set_option maxRecDepth 100000 in
theorem sSKebab (s : ByteArray) (w : World) (hs : s.size ≤ 2147483647) (hT : STab w) :
    Calls Tryd.prog 33 #[.string s] w fun e w' => e = .returned (.string (delS 45 ⟨#[]⟩ true s)) ∧ Below w.heap.size w w' := by
  have C := Lib.hid (fun w (hT : STab w) => delim_z s ⟨#[]⟩ 45 45 rfl true w hs (by decide) hT)
  go_enter Tryd.func33, Tryd.ntmps33
  go_wp2_with (go_at_call 20; (with_reducible refine (C.out _ hT).mono ?_); rintro e w1 ⟨rfl, hb⟩; dsimp only)
  go_wp2
  go_ret
  exact ⟨rfl, hb⟩
set_option maxRecDepth 100000 in
theorem sIgn (s ign : ByteArray) (w : World) (hs : s.size ≤ 2147483647) (hi : ign.size ≤ 2147483647) (hT : STab w) :
    Calls Tryd.prog 35 #[.string s, .string ign] w fun e w' => e = .returned (.string (delS 95 ign false s)) ∧ Below w.heap.size w w' := by
  have C := Lib.hid (fun w (hT : STab w) => delim_z s ign 95 95 rfl false w hs hi hT)
  go_enter Tryd.func35, Tryd.ntmps35
  go_wp2_with (go_at_call 20; (with_reducible refine (C.out _ hT).mono ?_); rintro e w1 ⟨rfl, hb⟩; dsimp only)
  go_wp2
  go_ret
  exact ⟨rfl, hb⟩
set_option maxRecDepth 100000 in
theorem iTSD (s ign : ByteArray) (d : UInt8) (z : Int) (hz : z = (d.toNat : Int)) (scr : Bool) (w : World) (hs : s.size ≤ 2147483647) (hi : ign.size ≤ 2147483647) (hT : STab w) :
    Calls Tryd.prog 7 #[.string s, .int .u8 z, .string ign, .bool scr] w fun e w' => e = .returned (.string (delS d ign scr s)) ∧ Below w.heap.size w w' := by
  have C := Lib.hid (fun w (hT : STab w) => delim_z s ign d z hz scr w hs hi hT)
  clear hz
  go_enter Tryd.func7, Tryd.ntmps7
  go_wp2_with (go_at_call 20; (with_reducible refine (C.out _ hT).mono ?_); rintro e w1 ⟨rfl, hb⟩; dsimp only)
  go_wp2
  go_ret
  exact ⟨rfl, hb⟩
set_option maxRecDepth 100000 in
theorem iDelim (s : ByteArray) (d : UInt8) (z : Int) (hz : z = (d.toNat : Int)) (w : World) (hs : s.size ≤ 2147483647) (hT : STab w) :
    Calls Tryd.prog 18 #[.string s, .int .u8 z] w fun e w' => e = .returned (.string (delS d ⟨#[]⟩ false s)) ∧ Below w.heap.size w w' := by
  have C := Lib.hid (fun w (hT : STab w) => sDelim s d z hz w hs hT)
  clear hz
  go_enter Tryd.func18, Tryd.ntmps18
  go_wp2_with (go_at_call 34; (with_reducible refine (C.out _ hT).mono ?_); rintro e w1 ⟨rfl, hb⟩; dsimp only)
  go_wp2
  go_ret
  exact ⟨rfl, hb⟩
set_option maxRecDepth 100000 in
theorem iSnake (s : ByteArray) (w : World) (hs : s.size ≤ 2147483647) (hT : STab w) :
    Calls Tryd.prog 11 #[.string s] w fun e w' => e = .returned (.string (delS 95 ⟨#[]⟩ false s)) ∧ Below w.heap.size w w' := by
  have C := Lib.hid (fun w (hT : STab w) => sSnake s w hs hT)
  go_enter Tryd.func11, Tryd.ntmps11
  go_wp2_with (go_at_call 29; (with_reducible refine (C.out _ hT).mono ?_); rintro e w1 ⟨rfl, hb⟩; dsimp only)
  go_wp2
  go_ret
  exact ⟨rfl, hb⟩
set_option maxRecDepth 100000 in
theorem iKebab (s : ByteArray) (w : World) (hs : s.size ≤ 2147483647) (hT : STab w) :
    Calls Tryd.prog 13 #[.string s] w fun e w' => e = .returned (.string (delS 45 ⟨#[]⟩ false s)) ∧ Below w.heap.size w w' := by
  have C := Lib.hid (fun w (hT : STab w) => sKebab s w hs hT)
  go_enter Tryd.func13, Tryd.ntmps13
  go_wp2_with (go_at_call 31; (with_reducible refine (C.out _ hT).mono ?_); rintro e w1 ⟨rfl, hb⟩; dsimp only)
  go_wp2
  go_ret
  exact ⟨rfl, hb⟩
set_option maxRecDepth 100000 in
theorem iSSnake (s : ByteArray) (w : World) (hs : s.size ≤ 2147483647) (hT : STab w) :
    Calls Tryd.prog 14 #[.string s] w fun e w' => e = .returned (.string (delS 95 ⟨#[]⟩ true s)) ∧ Below w.heap.size w w' := by
  have C := Lib.hid (fun w (hT : STab w) => sSSnake s w hs hT)
  go_enter Tryd.func14, Tryd.ntmps14
  go_wp2_with (go_at_call 32; (with_reducible refine (C.out _ hT).mono ?_); rintro e w1 ⟨rfl, hb⟩; dsimp only)
  go_wp2
  go_ret
  exact ⟨rfl, hb⟩
set_option maxRecDepth 100000 in
theorem iSKebab (s : ByteArray) (w : World) (hs : s.size ≤ 2147483647) (hT : STab w) :
    Calls Tryd.prog 16 #[.string s] w fun e w' => e = .returned (.string (delS 45 ⟨#[]⟩ true s)) ∧ Below w.heap.size w w' := by
  have C := Lib.hid (fun w (hT : STab w) => sSKebab s w hs hT)
  go_enter Tryd.func16, Tryd.ntmps16
  go_wp2_with (go_at_call 33; (with_reducible refine (C.out _ hT).mono ?_); rintro e w1 ⟨rfl, hb⟩; dsimp only)
  go_wp2
  go_ret
  exact ⟨rfl, hb⟩
set_option maxRecDepth 100000 in
theorem iIgn (s ign : ByteArray) (w : World) (hs : s.size ≤ 2147483647) (hi : ign.size ≤ 2147483647) (hT : STab w) :
    Calls Tryd.prog 19 #[.string s, .string ign] w fun e w' => e = .returned (.string (delS 95 ign false s)) ∧ Below w.heap.size w w' := by
  have C := Lib.hid (fun w (hT : STab w) => sIgn s ign w hs hi hT)
  go_enter Tryd.func19, Tryd.ntmps19
  go_wp2_with (go_at_call 35; (with_reducible refine (C.out _ hT).mono ?_); rintro e w1 ⟨rfl, hb⟩; dsimp only)
  go_wp2
  go_ret
  exact ⟨rfl, hb⟩

def Asc (s : ByteArray) : Prop := ∀ b ∈ s.data.toList, b.toNat < 128
def plB (s : ByteArray) : Bool := decide (∀ b ∈ s.data.toList, b.toNat < 128) && decide (s.size ≤ 4096)
theorem plB_ok {s : ByteArray} (h : plB s = true) : s.size ≤ 4096 ∧ Asc s := by
  unfold plB at h
  rw [Bool.and_eq_true] at h
  exact ⟨of_decide_eq_true h.2, (of_decide_eq_true h.1 : ∀ b ∈ s.data.toList, b.toNat < 128)⟩
theorem plB_any (s : ByteArray) (hs : s.size ≤ 140737488355328) (b : Bool) (h : plB s = b) (w : World) :
    Calls Tryd.prog 12 #[.string s] w fun e w' => e = .returned (.bool b) ∧ w' = w := by
  have := plain_any s w hs
  subst h
  exact this
theorem str_ext {a b : ByteArray} (h : a.data.toList = b.data.toList) : a = b := by
  apply ByteArray.ext
  exact Array.toList_inj.1 h
theorem delS_list (d : UInt8) (scr : Bool) (s : ByteArray) : (delS d ⟨#[]⟩ scr s).data.toList = spF d scr none (Lib.trimSpaceD s.data.toList) := dgo_nil d scr _
theorem up_delS (d : UInt8) (hd : lowB d = false) (s : ByteArray) : (⟨((delS d ⟨#[]⟩ false s).data.toList.map upB).toArray⟩ : ByteArray) = delS d ⟨#[]⟩ true s := by
  apply str_ext
  rw [delS_list, delS_list]
  exact scream d hd _
theorem dn_delS (d : UInt8) (hd : capB d = false) (s : ByteArray) : (⟨((delS d ⟨#[]⟩ true s).data.toList.map dnB).toArray⟩ : ByteArray) = delS d ⟨#[]⟩ false s := by
  apply str_ext
  rw [delS_list, delS_list]
  exact hush d hd _
theorem delS_twice (d d' : UInt8) (hd : sepB d = true) (hs : Lib.isSp d = false) (ha : d.toNat < 128) (s : ByteArray) (h : Asc s) : delS d' ⟨#[]⟩ false (delS d ⟨#[]⟩ false s) = delS d' ⟨#[]⟩ false s := by
  apply str_ext
  rw [delS_list, delS_list, delS_list]
  obtain ⟨ht, _⟩ := trim_ascii s.data.toList h
  rw [trim_of (trim_spF d false hs ha _ ht), twice d d' hd]
end Go.Proofs.YtpbehdlgmpmkaaaDoor
