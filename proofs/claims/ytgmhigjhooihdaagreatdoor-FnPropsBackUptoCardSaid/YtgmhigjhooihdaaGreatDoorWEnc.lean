/- The walks of the properties' encodeUtf8, encodeIso and encode at small texts. -/
import Derived.Test.YtgmhigjhooihdaaGreatDoorQEsA
import Derived.Test.YtgmhigjhooihdaaGreatDoorHex4
import Derived.Test.YtgmhigjhooihdaaGreatDoorZzIt
import Derived.Deep.LoopGhost
import Derived.Shelf.Unicode.IsSpaceAny
set_option linter.unusedVariables false
namespace Go.Proofs.YtgmhigjhooihdaaGreatDoor
open Go.RowKit Plain

def WTab (w : World) : Prop := Tabs w ∧ Lib.WhiteTab 2 w
theorem WTab.below {w w' : World} (h : WTab w) (hb : Below w.heap.size w w') : WTab w' := ⟨h.1.below hb, WhiteTab_below h.2 hb⟩
theorem smallR_of {R : Nat} (h : GR R) (hs : smR R = true) : SmallR R := by
  have h1 : R ≤ 65535 ∧ R ≠ 65533 := by
    unfold smR at hs
    simp at hs
    omega
  refine ⟨by omega, ?_, h1.2⟩
  rcases Nat.lt_or_ge R 55296 with h2 | h2
  · exact .inl h2
  rcases Nat.lt_or_ge 57343 R with h3 | h3
  · exact .inr h3
  exfalso
  have he : Lib.encodeRune (R : Int) = [239, 191, 189] := by
    unfold Lib.encodeRune
    rw [Lib.encodeRuneZ_bad (.inr (.inl ⟨by omega, by omega⟩))]
    rfl
  have h4 := h.2
  rw [he] at h4
  have h5 : runeOf [239, 191, 189] = 65533 := by decide +kernel
  omega
/-- what is written for a rune; e: 1 for UTF-8 -/
def encR (q : ByteArray) (e : Nat) (f : Bool) (R : Nat) : ByteArray :=
  if f = true ∧ Lib.isSpaceR R = true then escF ⟨#[32]⟩ R else if e = 1 ∨ R < 256 then escF q R else hex4F R
def encL (q : ByteArray) (e : Nat) : Bool → List Nat → List UInt8
  | _, [] => []
  | f, R :: rs => (encR q e f R).data.toList ++ encL q e false rs
def encT (q : ByteArray) (e : Nat) (s : ByteArray) : ByteArray := ⟨(encL q e true (rn s)).toArray⟩
theorem escF_size (q : ByteArray) (R : Nat) : (escF q R).size ≤ 6 := by
  have h := encode_size_le (R : Int)
  unfold escF
  repeat' split
  all_goals first | exact (by decide) | (rw [ByteArray.size_append]; show 1 + _ ≤ 6; omega) | omega
theorem encR_size (q : ByteArray) (e : Nat) (f : Bool) (R : Nat) : (encR q e f R).size ≤ 6 := by
  unfold encR
  repeat' split
  all_goals first | exact escF_size _ _ | exact Nat.le_of_eq (hex4F_size _)
theorem encL_len (q : ByteArray) (e : Nat) : ∀ (rs : List Nat) (f : Bool), (encL q e f rs).length ≤ 6 * rs.length := by
  intro rs
  induction rs with
  | nil => intro f; exact Nat.zero_le _
  | cons R rs ih =>
    intro f
    have h1 := encR_size q e f R
    have h2 := ih false
    rw [Lib.size_eq] at h1
    unfold encL
    rw [List.length_append, List.length_cons]
    omega
theorem encT_size (q : ByteArray) (e : Nat) (s : ByteArray) : (encT q e s).size ≤ 6 * s.size := by
  have h := encL_len q e (rn s) true
  have h2 := rnsOf_length s.data.toList
  rw [← Lib.size_eq] at h2
  rw [Lib.size_eq]
  unfold encT
  show (encL q e true (rn s)).length ≤ _
  unfold rn at h ⊢
  omega
theorem rn_head {t : ByteArray} {R K : Nat} (h : Head t R K) : rnsOf t.data.toList = R :: rnsOf (t.data.toList.drop K) := by
  unfold rnsOf
  rw [segs_rest t R K h, List.map_cons, (rest_of t K).1, h.run]
/-- where the encoders stand -/
def EncAt (q : ByteArray) (e : Nat) (s v : ByteArray) (pos : Nat) : Prop := v.data.toList ++ encL q e (pos == 0) (rnsOf (s.data.toList.drop pos)) = encL q e true (rn s) ∧ v.size ≤ 6 * pos
theorem encAt_zero (q : ByteArray) (e : Nat) (s : ByteArray) : EncAt q e s ⟨#[]⟩ 0 := ⟨by simp [rn], Nat.le_refl _⟩
theorem encAt_step {q : ByteArray} {e : Nat} {s v : ByteArray} {pos R K : Nat} (h : EncAt q e s v pos) (hr : rnsOf (s.data.toList.drop pos) = R :: rnsOf (s.data.toList.drop (pos + K))) (hK : 1 ≤ K) : EncAt q e s (v ++ encR q e (pos == 0) R) (pos + K) := by
  obtain ⟨h1, h2⟩ := h
  have h3 := encR_size q e (pos == 0) R
  refine ⟨?_, by rw [ByteArray.size_append]; omega⟩
  rw [hr] at h1
  rw [← h1]
  have : (pos + K == 0) = false := by rw [beq_eq_false_iff_ne]; omega
  rw [this]
  simp [encL]
theorem encAt_end {q : ByteArray} {e : Nat} {s v : ByteArray} {pos : Nat} (h : EncAt q e s v pos) (hp : ¬ pos < s.size) : v = encT q e s := by
  have h1 := h.1
  rw [rnsOf_end s pos hp] at h1
  have h2 : v.data.toList = encL q e true (rn s) := by simpa [encL] using h1
  unfold encT
  rw [← h2]
set_option maxHeartbeats 4000000 in
set_option maxRecDepth 100000 in
theorem encU_all (s q : ByteArray) (w : World) (hs : s.size ≤ 2147483647) (hq : q.size ≤ 100) (hsm : ∀ R ∈ rn s, SmallR R) (hT : WTab w) :
    Calls Tryz.prog 89 #[.string s, .string q] w fun e w' => e = .returned (.string (encT q 1 s)) ∧ Below w.heap.size w w' := by
  have HSM := Lib.hid hsm
  have HT := Lib.hid hT
  clear hsm hT
  go_enter Tryz.func89, Tryz.ntmps89
  go_wp2
  go_loopg [5, 6] s.size (fun gh vv pv wr => ∃ (v : ByteArray) (pos : Nat), vv = .string v ∧ pv = .int .i64 pos ∧ pos ≤ s.size ∧ gh = s.size - pos ∧ Hid (EncAt q 1 s v pos) ∧ v.size ≤ 6 * pos ∧ Hid (Below w.heap.size w wr) ∧ Hid (∀ R ∈ rnsOf (s.data.toList.drop pos), SmallR R))
  case atStart => exact ⟨⟨#[]⟩, 0, rfl, rfl, by omega, by omega, Lib.hid (encAt_zero q 1 s), Nat.le_refl _, Lib.hid (Below.refl _ _), Lib.hid (by rw [List.drop_zero]; exact HSM.out)⟩
  case round =>
    obtain ⟨v, pos, rfl, rfl, hp, rfl, HV, hvs, HB, HM⟩ := hrel
    by_cases hlt : pos < s.size
    · have hlz : (pos : Int) < (s.size : Int) := by omega
      obtain ⟨t, ht⟩ : ∃ t, s.extract pos s.size = t := ⟨_, rfl⟩
      have htl : t.data.toList = s.data.toList.drop pos := by rw [← ht]; exact (rest_of s pos).1
      have htz : t.size = s.size - pos := by rw [← ht]; exact (rest_of s pos).2
      obtain ⟨R, K, hh⟩ := head_of t (by omega)
      have hrn : rnsOf (s.data.toList.drop pos) = R :: rnsOf (s.data.toList.drop (pos + K)) := by
        have := rn_head hh
        rw [htl, List.drop_drop] at this
        exact this
      have HR : Hid (SmallR R) := Lib.hid (HM.out R (by rw [hrn]; exact List.mem_cons_self))
      have HM2 : Hid (∀ R ∈ rnsOf (s.data.toList.drop (pos + K)), SmallR R) := Lib.hid (fun x hx => HM.out x (by rw [hrn]; exact List.mem_cons_of_mem _ hx))
      have hK1 : 1 ≤ K := by have := hh.pos; omega
      have hK2 : pos + K ≤ s.size := by have := hh.le; omega
      have hR2 : (R : Int) ≤ 1114111 := by have := HR.out.1; omega
      have HST := Lib.hid (encAt_step HV.out hrn hK1)
      have hszz := encR_size q 1 (pos == 0) R
      have HH := Lib.hid hh
      have HTr : Hid (Tabs wr) := Lib.hid (HT.out.below HB.out).1
      obtain ⟨E, hE⟩ : ∃ E, encR q 1 (pos == 0) R = E := ⟨_, rfl⟩
      have HE := Lib.hid hE
      rw [hE] at HST hszz
      have hnew := HST.out.2
      clear hh htl htz hrn hE
      by_cases hp0 : pos = 0
      · have hpz : ((pos : Int) == 0) = true := by rw [beq_iff_eq]; omega
        have HSP : Hid (∀ W, Below w.heap.size w W → Calls Tryz.prog 103 #[.int .i32 (R : Int)] W fun e w' => e = .returned (.bool (Lib.isSpaceR R)) ∧ Below W.heap.size W w') := Lib.hid (fun W hW => by
          have := Tryz.unicode_IsSpace_any (R : Int) W (by omega) (by omega) (HT.out.below hW).2
          rw [Lib.isSpaceZ_nat] at this
          exact this)
        obtain ⟨sp, hsp⟩ : ∃ b, Lib.isSpaceR R = b := ⟨_, rfl⟩
        rw [hsp] at HSP
        have HES1 : Hid (sp = true → ∀ W, Calls Tryz.prog 104 #[.int .i32 (R : Int), .string ⟨#[32]⟩] W fun e w' => e = .returned (.string E) ∧ Below W.heap.size W w') := Lib.hid (fun h W => by
          have := escape_any ⟨#[32]⟩ R W HR.out (by decide)
          have e2 : E = escF ⟨#[32]⟩ R := by rw [← HE.out, hp0]; unfold encR; rw [if_pos ⟨rfl, hsp.trans h⟩]
          rw [e2]
          exact this)
        have HES2 : Hid (sp = false → ∀ W, Calls Tryz.prog 104 #[.int .i32 (R : Int), .string q] W fun e w' => e = .returned (.string E) ∧ Below W.heap.size W w') := Lib.hid (fun h W => by
          have := escape_any q R W HR.out hq
          have e2 : E = escF q R := by
            rw [← HE.out, hp0]
            unfold encR
            rw [if_neg (fun h9 => by rw [hsp, h] at h9; exact absurd h9.2 (by decide)), if_pos (.inl rfl)]
          rw [e2]
          exact this)
        clear hp0 hsp
        cases sp with
        | true =>
          go_wp2_with (first
            | (go_at_call 102; (with_reducible refine (decode_any t _ HTr.out R K HH).mono ?_); rintro e w1 ⟨rfl, hb1⟩; have HB1 : Hid (Below w.heap.size w w1) := Lib.hid (bthen HB.out hb1); clear hb1; dsimp only)
            | (go_at_call 103; (with_reducible refine (HSP.out _ HB1.out).mono ?_); rintro e w2 ⟨rfl, hb2⟩; have HB2 : Hid (Below w.heap.size w w2) := Lib.hid (bthen HB1.out hb2); clear hb2; dsimp only)
            | (go_at_call 104; (with_reducible refine (HES1.out rfl _).mono ?_); rintro e w3 ⟨rfl, hb3⟩; have HB3 : Hid (Below w.heap.size w w3) := Lib.hid (bthen HB2.out hb3); clear hb3; dsimp only))
          go_roundg (s.size - (pos + K))
          case measure => omega
          case rel => exact ⟨v ++ E, pos + K, rfl, by go_num, by omega, rfl, HST, hnew, HB3, HM2⟩
        | false =>
          go_wp2_with (first
            | (go_at_call 102; (with_reducible refine (decode_any t _ HTr.out R K HH).mono ?_); rintro e w1 ⟨rfl, hb1⟩; have HB1 : Hid (Below w.heap.size w w1) := Lib.hid (bthen HB.out hb1); clear hb1; dsimp only)
            | (go_at_call 103; (with_reducible refine (HSP.out _ HB1.out).mono ?_); rintro e w2 ⟨rfl, hb2⟩; have HB2 : Hid (Below w.heap.size w w2) := Lib.hid (bthen HB1.out hb2); clear hb2; dsimp only)
            | (go_at_call 104; (with_reducible refine (HES2.out rfl _).mono ?_); rintro e w3 ⟨rfl, hb3⟩; have HB3 : Hid (Below w.heap.size w w3) := Lib.hid (bthen HB2.out hb3); clear hb3; dsimp only))
          go_roundg (s.size - (pos + K))
          case measure => omega
          case rel => exact ⟨v ++ E, pos + K, rfl, by go_num, by omega, rfl, HST, hnew, HB3, HM2⟩
      · have hpz : ((pos : Int) == 0) = false := by rw [beq_eq_false_iff_ne]; omega
        have HES2 : Hid (∀ W, Calls Tryz.prog 104 #[.int .i32 (R : Int), .string q] W fun e w' => e = .returned (.string E) ∧ Below W.heap.size W w') := Lib.hid (fun W => by
          have := escape_any q R W HR.out hq
          have e2 : E = escF q R := by
            rw [← HE.out]
            unfold encR
            rw [if_neg (fun h9 => by have := h9.1; rw [beq_iff_eq] at this; exact hp0 this), if_pos (.inl rfl)]
          rw [e2]
          exact this)
        clear hp0
        go_wp2_with (first
          | (go_at_call 102; (with_reducible refine (decode_any t _ HTr.out R K HH).mono ?_); rintro e w1 ⟨rfl, hb1⟩; have HB1 : Hid (Below w.heap.size w w1) := Lib.hid (bthen HB.out hb1); clear hb1; dsimp only)
          | (go_at_call 104; (with_reducible refine (HES2.out _).mono ?_); rintro e w3 ⟨rfl, hb3⟩; have HB3 : Hid (Below w.heap.size w w3) := Lib.hid (bthen HB1.out hb3); clear hb3; dsimp only))
        go_roundg (s.size - (pos + K))
        case measure => omega
        case rel => exact ⟨v ++ E, pos + K, rfl, by go_num, by omega, rfl, HST, hnew, HB3, HM2⟩
    · have hlz : ¬ (pos : Int) < (s.size : Int) := by omega
      have he := encAt_end HV.out hlt
      subst he
      clear hvs
      go_wp2
      go_ret
      exact ⟨rfl, HB.out⟩
end Go.Proofs.YtgmhigjhooihdaaGreatDoor
