/- Properties that are written are read back: sizes, ASCII. -/
import Derived.Test.YtgmhigjhooihdaaGreatDoorApart
import Derived.Test.YtgmhigjhooihdaaGreatDoorBacksW
import Derived.Test.YtgmhigjhooihdaaGreatDoorEqPrA
import Derived.Test.YtgmhigjhooihdaaGreatDoorLatin2
set_option linter.unusedVariables false
namespace Go.Proofs.YtgmhigjhooihdaaGreatDoor
open Go.RowKit Plain Go.Maps

theorem wrK_len (R : Nat) : (wrK R).length ≤ 4 := by
  have := encode_len (R : Int)
  unfold wrK
  repeat' split
  all_goals first | exact (by decide) | exact this
theorem wrV_len (f : Bool) (R : Nat) : (wrV f R).length ≤ 4 := by
  have := encode_len (R : Int)
  unfold wrV
  repeat' split
  all_goals first | exact (by decide) | exact this
theorem flat4_len (g : Nat → List UInt8) (h : ∀ R, (g R).length ≤ 4) (rs : List Nat) : ((rs.map g).flatten).length ≤ 4 * rs.length := by
  induction rs with
  | nil => exact Nat.zero_le _
  | cons R rs ih =>
    have := h R
    rw [List.map_cons, List.flatten_cons, List.length_append, List.length_cons]
    omega
theorem valT_len (rs : List Nat) : (valT rs).length ≤ 4 * rs.length := by
  cases rs with
  | nil => exact Nat.zero_le _
  | cons R rs =>
    have h1 := wrV_len true R
    have h2 := flat4_len (wrV false) (wrV_len false) rs
    show (wrV true R ++ (rs.map (wrV false)).flatten).length ≤ _
    rw [List.length_append, List.length_cons]
    omega
theorem rn_len (s : ByteArray) : (rn s).length ≤ s.size := by
  have := rnsOf_length s.data.toList
  rw [← Lib.size_eq] at this
  exact this
theorem comsT_len (cs : List ByteArray) : ((cs.map comT).flatten).length ≤ 3 * sumC cs := by
  induction cs with
  | nil => exact Nat.zero_le _
  | cons c cs ih =>
    unfold sumC at *
    rw [List.map_cons, List.flatten_cons, List.length_append, List.map_cons, List.sum_cons]
    have : (comT c).length = c.size + 3 := by unfold comT; rw [Lib.size_eq]; simp
    omega
theorem propT_len (S : List UInt8) (hS : S.length ≤ 10) (f : Bool) (d : PropD) : (propT S f d).length ≤ 12 * totD d := by
  have h1 : (keyT (rn d.key)).length ≤ 4 * (rn d.key).length := flat4_len wrK wrK_len _
  have h2 := valT_len (rn d.raw)
  have h3 := rn_len d.key
  have h4 := rn_len d.raw
  have h5 := comsT_len d.com
  have h6 : (notesT f d).length ≤ 1 + 3 * sumC d.com := by
    unfold notesT
    split
    · simp
    · have hl : (if f = true then ([] : List UInt8) else [10]).length ≤ 1 := by cases f <;> decide
      rw [List.length_append]
      omega
  unfold propT lineT totD
  simp only [List.length_append, List.length_cons, List.length_nil]
  omega
theorem allT_len (S : List UInt8) (hS : S.length ≤ 10) : ∀ (l : List PropD) (f : Bool), (allT S f l).length ≤ 12 * totP l := by
  intro l
  induction l with
  | nil => intro f; exact Nat.zero_le _
  | cons d l ih =>
    intro f
    have h1 := propT_len S hS f d
    have h2 := ih false
    have h3 : totP (d :: l) = totD d + totP l := by unfold totP; simp
    show (propT S f d ++ allT S false l).length ≤ _
    rw [List.length_append]
    omega
/-! ASCII -/
def AscL (l : List UInt8) : Prop := ∀ b ∈ l, b.toNat < 128
theorem AscL.app {a b : List UInt8} (h : AscL a) (k : AscL b) : AscL (a ++ b) := fun x hx => by
  rcases List.mem_append.1 hx with h9 | h9
  · exact h x h9
  · exact k x h9
theorem AscL.flat {ls : List (List UInt8)} (h : ∀ l ∈ ls, AscL l) : AscL ls.flatten := fun x hx => by
  obtain ⟨l, h1, h2⟩ := List.mem_flatten.1 hx
  exact h l h1 x h2
theorem asc_rns : ∀ (l : List UInt8), AscL l → rnsOf l = l.map (·.toNat) := by
  intro l
  induction l with
  | nil => intro h; rfl
  | cons b l ih =>
    intro h
    have h1 := h b List.mem_cons_self
    unfold rnsOf
    rw [segs_ascii b l h1, List.map_cons, runeOf_ascii b h1]
    have := ih (fun x hx => h x (List.mem_cons_of_mem _ hx))
    unfold rnsOf at this
    rw [this]
    rfl
theorem asc_rn {s : ByteArray} (h : Asc s) : ∀ R ∈ rn s, R < 128 := by
  unfold rn
  rw [asc_rns _ h]
  intro R hR
  obtain ⟨b, hb, rfl⟩ := List.mem_map.1 hR
  exact h b hb
theorem asc_enc {R : Nat} (h : R < 128) : AscL (Lib.encodeRune (R : Int)) := by
  rw [asc_rune h]
  intro b hb
  simp at hb
  subst hb
  simp
  omega
theorem asc_two (a b : UInt8) (ha : a.toNat < 128) (hb : b.toNat < 128) : AscL [a, b] := fun x hx => by
  simp at hx
  rcases hx with rfl | rfl
  · exact ha
  · exact hb
theorem asc_wrK {R : Nat} (h : R < 128) : AscL (wrK R) := by
  unfold wrK
  repeat' split
  all_goals first | exact asc_two _ _ (by decide) (by decide) | exact asc_enc h
theorem asc_wrV {f : Bool} {R : Nat} (h : R < 128) : AscL (wrV f R) := by
  unfold wrV
  repeat' split
  all_goals first | exact asc_two _ _ (by decide) (by decide) | exact asc_enc h
theorem asc_keyT (rs : List Nat) (h : ∀ R ∈ rs, R < 128) : AscL (keyT rs) := AscL.flat (fun l hl => by
  obtain ⟨R, hR, rfl⟩ := List.mem_map.1 hl
  exact asc_wrK (h R hR))
theorem asc_valT (rs : List Nat) (h : ∀ R ∈ rs, R < 128) : AscL (valT rs) := by
  cases rs with
  | nil => intro b hb; cases hb
  | cons R rs => exact (asc_wrV (h R List.mem_cons_self)).app (AscL.flat (fun l hl => by
      obtain ⟨x, hx, rfl⟩ := List.mem_map.1 hl
      exact asc_wrV (h x (List.mem_cons_of_mem _ hx))))
theorem asc_ten : AscL [10] := fun x hx => by simp at hx; subst hx; decide
theorem asc_propT (S : List UInt8) (hS : AscL S) (f : Bool) (d : PropD) (h : AscD d) : AscL (propT S f d) := by
  unfold propT
  refine AscL.app ?_ ((asc_keyT _ (asc_rn h.1)).app (hS.app ((asc_valT _ (asc_rn h.2.1)).app asc_ten)))
  unfold notesT
  split
  · intro b hb; cases hb
  · refine AscL.app ?_ (AscL.flat (fun l hl => ?_))
    · cases f
      · exact asc_ten
      · intro b hb; cases hb
    · obtain ⟨c, hc, rfl⟩ := List.mem_map.1 hl
      unfold comT
      exact (asc_two 35 32 (by decide) (by decide)).app (AscL.app (h.2.2 c hc) asc_ten)
theorem asc_allT (S : List UInt8) (hS : AscL S) : ∀ (l : List PropD) (f : Bool), (∀ d ∈ l, AscD d) → AscL (allT S f l) := by
  intro l
  induction l with
  | nil => intro f h b hb; cases hb
  | cons d l ih => intro f h; exact (asc_propT S hS f d (h d List.mem_cons_self)).app (ih false (fun x hx => h x (List.mem_cons_of_mem _ hx)))
theorem textOf_ascB : ∀ (l : List UInt8), AscL l → textOf (l.map (·.toNat)) = ⟨l.toArray⟩ := by
  intro l h
  unfold textOf
  congr 2
  induction l with
  | nil => rfl
  | cons b l ih =>
    simp only [List.map_cons, List.flatten_cons]
    rw [enc_asc b (h b List.mem_cons_self), ih (fun c hc => h c (List.mem_cons_of_mem _ hc))]
    rfl
theorem latT_asc {s : ByteArray} (h : AscL s.data.toList) : latT s = s := by
  unfold latT byN
  rw [textOf_ascB _ h]
/-- the loaded properties -/
theorem load_back (nt lat : Bool) (S : List UInt8) (hS : isSep S) (l : List PropD) (h : LST nt l) (hb : BK lat l) (T : ByteArray) (hT : T.data.toList = allT S true l) :
    parL (lexL (unbom T)) [] pst0 = some (l.foldl addP pst0) ∧ (lat = true → parL (lexL (latT T)) [] pst0 = some (l.foldl addP pst0)) := by
  have h1 : ∀ d ∈ l, OKp d ∧ NoC d := fun d hd => ⟨h.ok d hd, (hb d hd).1⟩
  have h2 := back_par T S hS l h1 hT
  refine ⟨?_, fun hl => ?_⟩
  · rw [unbom_no (back_bom T S l h.ok hT)]
    exact h2
  · have hSA : AscL S := by
      rcases hS with rfl | rfl | rfl | rfl
      all_goals (intro b hb9; revert b; decide)
    rw [latT_asc (by rw [hT]; exact asc_allT S hSA l true (fun d hd => (hb d hd).2 hl))]
    exact h2
theorem tok_of {nt lat : Bool} {l : List PropD} (h : LST nt l) (hb : BK lat l) (e : Nat) (he : e = if lat then 2 else 1) : ∀ d ∈ l, TOK e nt d := by
  intro d hd
  have h1 := hb d hd
  have h3 : nt = true ∨ d.com = [] := by
    rcases h.nc with h9 | h9
    · exact .inl h9
    · exact .inr (h9 d hd)
  cases lat with
  | false => exact ⟨fun R _ => .inl he, fun R _ => .inl he, h3⟩
  | true =>
    obtain ⟨a1, a2, _⟩ := h1.2 rfl
    exact ⟨fun R hR => .inr (by have := asc_rn a1 R hR; omega), fun R hR => .inr (by have := asc_rn a2 R hR; omega), h3⟩
end Go.Proofs.YtgmhigjhooihdaaGreatDoor
