/- The walks of the properties' encodeUtf8 and encode, at letters and digits. -/
import Derived.Test.YtcbfoieamcckoaaDoorQEsc
import Derived.Deep.LoopGhost
set_option linter.unusedVariables false
namespace Go.Proofs.YtcbfoieamcckoaaDoor
open Go.RowKit Plain

def NiceL (l : List UInt8) : Prop := ∀ c ∈ l, NiceR c.toNat
theorem nice_head {t : ByteArray} {R K : Nat} (h : Head t R K) (hn : NiceL t.data.toList) : K = 1 ∧ NiceR R ∧ t.data.toList = UInt8.ofNat R :: t.data.toList.drop 1 := by
  have hp := h.pos
  have hl := h.le
  cases ht : t.data.toList with
  | nil =>
    have := h.le
    rw [Lib.size_eq, ht] at this
    simp at this
    omega
  | cons c l =>
    have hc := hn c (by rw [ht]; exact List.mem_cons_self)
    have hs := h.seg
    rw [ht, segs_ascii c l hc.2.1] at hs
    injection hs with h1 h2
    have hK : K = 1 := by
      have h3 := congrArg List.length h1
      rw [List.length_take] at h3
      have h4 : K ≤ (c :: l).length := by rw [← ht, ← Lib.size_eq]; exact hl
      simp only [List.length_cons, List.length_nil] at h3 h4
      omega
    have hr := h.run
    rw [ht, hK] at hr
    have hr2 : R = c.toNat := by rw [hr]; exact runeOf_ascii c hc.2.1
    refine ⟨hK, hr2 ▸ hc, ?_⟩
    rw [hr2]
    simp
theorem enc_asc {R : Nat} (h : R < 128) : Utf8.encode (R : Int) = ⟨#[UInt8.ofNat R]⟩ := by
  have key : ∀ X : Fin 128, Utf8.encode ((X.val : Nat) : Int) = ⟨#[UInt8.ofNat X.val]⟩ := by decide +kernel
  exact key ⟨R, h⟩
theorem sp_no {R : Nat} (h : NiceR R) : Lib.isSpaceL (R : Int) = false := by
  have key : ∀ X : Fin 128, 48 ≤ X.val → Lib.isSpaceL ((X.val : Nat) : Int) = false := by decide +kernel
  exact key ⟨R, h.2.1⟩ h.1
set_option maxHeartbeats 4000000 in
set_option maxRecDepth 100000 in
theorem encU_any (s q : ByteArray) (w : World) (hs : s.size ≤ 2147483647) (hl : NiceL s.data.toList) (hq : q.size ≤ 100) (hn : ∀ R, NiceR R → ∀ pos, pos < q.size → (Utf8.decode q pos).1 ≠ R) (hT : Tabs w) :
    Calls Tryd.prog 29 #[.string s, .string q] w fun e w' => e = .returned (.string s) ∧ Below w.heap.size w w' := by
  have HL := Lib.hid hl
  have HNQ := Lib.hid hn
  have HSP : Hid (∀ R, NiceR R → ∀ pos, pos < (⟨#[32]⟩ : ByteArray).size → (Utf8.decode ⟨#[32]⟩ pos).1 ≠ R) := Lib.hid (fun R h pos hp => by
    have : pos = 0 := by have : pos < 1 := hp; omega
    subst this
    have e : (Utf8.decode ⟨#[32]⟩ 0).1 = 32 := by decide +kernel
    rw [e]
    have := h.1
    omega)
  clear hl hn
  go_enter Tryd.func29, Tryd.ntmps29
  go_wp2
  go_loopg [5, 6] s.size (fun gh vv pv wr => ∃ (v : ByteArray) (pos : Nat), vv = .string v ∧ pv = .int .i64 pos ∧ pos ≤ s.size ∧ gh = s.size - pos ∧ Hid (v.data.toList = s.data.toList.take pos) ∧ v.size = pos ∧ Below w.heap.size w wr)
  case atStart => exact ⟨⟨#[]⟩, 0, rfl, rfl, by omega, by omega, Lib.hid rfl, rfl, Below.refl _ _⟩
  case round =>
    obtain ⟨v, pos, rfl, rfl, hp, rfl, HV, hvs, hbw⟩ := hrel
    have hTr := hT.below hbw
    have HB := Lib.hid hbw
    clear hbw
    by_cases hlt : pos < s.size
    · have hlz : (pos : Int) < (s.size : Int) := by omega
      obtain ⟨t, ht⟩ : ∃ t, s.extract pos s.size = t := ⟨_, rfl⟩
      have htl : t.data.toList = s.data.toList.drop pos := by rw [← ht]; exact (rest_of s pos).1
      have htz : t.size = s.size - pos := by rw [← ht]; exact (rest_of s pos).2
      obtain ⟨R, K, hh⟩ := head_of t (by omega)
      obtain ⟨rfl, hR, hhd⟩ := nice_head hh (by rw [htl]; exact fun c hc => HL.out c (List.mem_of_mem_drop hc))
      have HH := Lib.hid hh
      have hR128 := hR.2.1
      have HR := Lib.hid hR
      have HX : Hid (v.data.toList ++ [UInt8.ofNat R] = s.data.toList.take (pos + 1)) := Lib.hid (by
        rw [HV.out]
        have h1 : s.data.toList[pos]? = some (UInt8.ofNat R) := by
          have h2 : (s.data.toList.drop pos)[0]? = some (UInt8.ofNat R) := by rw [← htl, hhd]; rfl
          rw [List.getElem?_drop] at h2
          exact h2
        rw [List.take_add_one, h1]
        rfl)
      have HE := Lib.hid (enc_asc hR128)
      have HES1 := Lib.hid (fun W => escape_nice ⟨#[32]⟩ R W HR.out (by decide) (HSP.out R HR.out))
      have HES2 := Lib.hid (fun W => escape_nice q R W HR.out hq (HNQ.out R HR.out))
      rw [HE.out] at HES1 HES2
      obtain ⟨E, hE⟩ : ∃ E : ByteArray, (⟨#[UInt8.ofNat R]⟩ : ByteArray) = E := ⟨_, rfl⟩
      have hEs : E.size = 1 := by rw [← hE]; rfl
      have HEE : Hid (E.data.toList = [UInt8.ofNat R]) := Lib.hid (by rw [← hE])
      rw [hE] at HES1 HES2
      have hsum : (v.size : Int) + (E.size : Int) ≤ 9223372036854775807 := by omega
      have hfin : Hid ((v ++ E).data.toList = s.data.toList.take (pos + 1)) := Lib.hid (by rw [← HX.out, ← HEE.out]; simp)
      have hfz : Hid ((v ++ E).size = pos + 1) := Lib.hid (by rw [ByteArray.size_append]; omega)
      clear hR hh hhd htl htz hE hvs hEs
      by_cases hp0 : pos = 0
      · have hpz : ((pos : Int) == 0) = true := by rw [beq_iff_eq]; omega
        have HS := Lib.hid (fun W => Tryd.unicode_IsSpace (R : Int) W (by omega) (by omega))
        rw [sp_no HR.out] at HS
        clear hp0
        go_wp2_with (go_at_call 33; (with_reducible refine (decode_any t _ hTr R 1 HH).mono ?_); rintro e w1 ⟨rfl, hb1⟩; dsimp only)
        go_wp2_with (go_at_call 34; (with_reducible refine (HS.out _).mono ?_); rintro e w1 ⟨rfl, rfl⟩; dsimp only)
        go_wp2_with (go_at_call 35; (with_reducible refine (HES2.out _).mono ?_); rintro e w2 ⟨rfl, hb2⟩; dsimp only)
        go_wp2
        go_roundg (s.size - (pos + 1))
        case measure => omega
        case rel => exact ⟨v ++ E, pos + 1, rfl, by go_num, by omega, rfl, hfin, hfz.out, bthen (bthen HB.out hb1) hb2⟩
      · have hpz : ((pos : Int) == 0) = false := by rw [beq_eq_false_iff_ne]; omega
        clear hp0
        go_wp2_with (go_at_call 33; (with_reducible refine (decode_any t _ hTr R 1 HH).mono ?_); rintro e w1 ⟨rfl, hb1⟩; dsimp only)
        go_wp2_with (go_at_call 35; (with_reducible refine (HES2.out _).mono ?_); rintro e w2 ⟨rfl, hb2⟩; dsimp only)
        go_wp2
        go_roundg (s.size - (pos + 1))
        case measure => omega
        case rel => exact ⟨v ++ E, pos + 1, rfl, by go_num, by omega, rfl, hfin, hfz.out, bthen (bthen HB.out hb1) hb2⟩
    · have hlz : ¬ (pos : Int) < (s.size : Int) := by omega
      obtain rfl : v = s := by
        apply ByteArray.ext
        apply Array.toList_inj.1
        rw [HV.out, List.take_of_length_le (by rw [← Lib.size_eq]; omega)]
      go_wp2
      go_ret
      exact ⟨rfl, HB.out⟩
theorem enc1_any (s q : ByteArray) (w : World) (hs : s.size ≤ 2147483647) (hl : NiceL s.data.toList) (hq : q.size ≤ 100) (hn : ∀ R, NiceR R → ∀ pos, pos < q.size → (Utf8.decode q pos).1 ≠ R) (hT : Tabs w) :
    Calls Tryd.prog 23 #[.string s, .string q, .int .u64 1] w fun e w' => e = .returned (.string s) ∧ Below w.heap.size w w' := by
  have HU := Lib.hid (encU_any s q w hs hl hq hn hT)
  clear hl hn
  go_enter Tryd.func23, Tryd.ntmps23
  go_wp2_with (go_at_call 29; (with_reducible refine HU.out.mono ?_); rintro e w1 ⟨rfl, hb1⟩; dsimp only)
  go_ret
  exact ⟨rfl, hb1⟩
theorem key_special (R : Nat) (h : NiceR R) (pos : Nat) (hp : pos < (⟨#[32, 58, 61]⟩ : ByteArray).size) : (Utf8.decode ⟨#[32, 58, 61]⟩ pos).1 ≠ R := by
  have h3 : pos < 3 := hp
  obtain ⟨h1, h2, h4, h5, h6⟩ := h
  have e0 : (Utf8.decode ⟨#[32, 58, 61]⟩ 0).1 = 32 := by decide +kernel
  have e1 : (Utf8.decode ⟨#[32, 58, 61]⟩ 1).1 = 58 := by decide +kernel
  have e2 : (Utf8.decode ⟨#[32, 58, 61]⟩ 2).1 = 61 := by decide +kernel
  rcases (show pos = 0 ∨ pos = 1 ∨ pos = 2 by omega) with rfl | rfl | rfl
  · rw [e0]; omega
  · rw [e1]; omega
  · rw [e2]; omega
end Go.Proofs.YtcbfoieamcckoaaDoor
