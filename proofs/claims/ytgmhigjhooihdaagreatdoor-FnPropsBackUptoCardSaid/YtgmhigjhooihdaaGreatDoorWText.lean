/- What is written, as the plain law tells it. -/
import Derived.Test.YtgmhigjhooihdaaGreatDoorWComA
set_option linter.unusedVariables false
namespace Go.Proofs.YtgmhigjhooihdaaGreatDoor
open Go.RowKit Plain Go.Maps

theorem zi_nil (R : Nat) : ¬ 0 ≤ ziF ⟨#[]⟩ R 0 := by
  unfold ziF
  rw [dif_neg (by decide)]
  decide
theorem zi_one (R : Nat) : 0 ≤ ziF ⟨#[32]⟩ R 0 ↔ R = 32 := by
  have d0 : Utf8.decode ⟨#[32]⟩ 0 = (32, 1) := by decide +kernel
  unfold ziF
  rw [dif_pos (by decide), d0]
  by_cases h : R = 32
  · subst h; simp
  · rw [if_neg (fun e => h e.symm)]
    unfold ziF
    rw [dif_neg (by decide)]
    constructor
    · intro h9; exact absurd h9 (by decide)
    · intro h9; exact absurd h9 h
theorem zi_three (R : Nat) : 0 ≤ ziF qKey R 0 ↔ R = 32 ∨ R = 58 ∨ R = 61 := by
  have d0 : Utf8.decode qKey 0 = (32, 1) := by decide +kernel
  have d1 : Utf8.decode qKey 1 = (58, 1) := by decide +kernel
  have d2 : Utf8.decode qKey 2 = (61, 1) := by decide +kernel
  unfold ziF
  rw [dif_pos (by decide), d0]
  by_cases h : R = 32
  · subst h; simp
  rw [if_neg (fun e => h e.symm)]
  unfold ziF
  rw [dif_pos (by decide)]
  show 0 ≤ (if (Utf8.decode qKey 1).1 = R then _ else ziF qKey R (1 + (Utf8.decode qKey 1).2)) ↔ _
  rw [d1]
  by_cases h2 : R = 58
  · subst h2; simp
  rw [if_neg (fun e => h2 e.symm)]
  unfold ziF
  rw [dif_pos (by decide)]
  show 0 ≤ (if (Utf8.decode qKey 2).1 = R then _ else ziF qKey R (2 + (Utf8.decode qKey 2).2)) ↔ _
  rw [d2]
  by_cases h3 : R = 61
  · subst h3; simp
  rw [if_neg (fun e => h3 e.symm)]
  unfold ziF
  rw [dif_neg (by decide)]
  constructor
  · intro h9; exact absurd h9 (by decide)
  · intro h9; omega
theorem escF_eq (q : ByteArray) (R : Nat) (Q : Prop) [Decidable Q] (h : 0 ≤ ziF q R 0 ↔ Q) : (escF q R).data.toList = if R = 12 then [92, 102] else if R = 10 then [92, 110] else if R = 13 then [92, 114] else if R = 9 then [92, 116] else if R = 92 then [92, 92] else if Q then 92 :: Lib.encodeRune (R : Int) else Lib.encodeRune (R : Int) := by
  unfold escF
  by_cases h1 : R = 12
  · rw [if_pos h1, if_pos h1]
  by_cases h2 : R = 10
  · rw [if_neg h1, if_neg h1, if_pos h2, if_pos h2]
  by_cases h3 : R = 13
  · rw [if_neg h1, if_neg h1, if_neg h2, if_neg h2, if_pos h3, if_pos h3]
  by_cases h4 : R = 9
  · rw [if_neg h1, if_neg h1, if_neg h2, if_neg h2, if_neg h3, if_neg h3, if_pos h4, if_pos h4]
  by_cases h5 : R = 92
  · rw [if_neg h1, if_neg h1, if_neg h2, if_neg h2, if_neg h3, if_neg h3, if_neg h4, if_neg h4, if_pos h5, if_pos h5]
  rw [if_neg h1, if_neg h1, if_neg h2, if_neg h2, if_neg h3, if_neg h3, if_neg h4, if_neg h4, if_neg h5, if_neg h5]
  by_cases hq : Q
  · rw [if_pos (h.2 hq), if_pos hq]
    rw [ByteArray.data_append, Array.toList_append, encode_list]
    rfl
  · rw [if_neg (fun h9 => hq (h.1 h9)), if_neg hq, encode_list]
theorem e32 : Lib.encodeRune 32 = [32] := asc_rune (R := 32) (by decide)
theorem e58 : Lib.encodeRune 58 = [58] := asc_rune (R := 58) (by decide)
theorem e61 : Lib.encodeRune 61 = [61] := asc_rune (R := 61) (by decide)
theorem sp58 : Lib.isSpaceR 58 = false := by decide +kernel
theorem sp61 : Lib.isSpaceR 61 = false := by decide +kernel
theorem sp32 : Lib.isSpaceR 32 = true := by decide +kernel
theorem encR_key (e : Nat) (f : Bool) (R : Nat) (h : e = 1 ∨ R < 256) : (encR qKey e f R).data.toList = wrK R := by
  unfold encR
  by_cases hf : f = true ∧ Lib.isSpaceR R = true
  · rw [if_pos hf, escF_eq _ R _ (zi_one R)]
    unfold wrK
    by_cases h32 : R = 32
    · subst h32; simp [e32]
    · have h58 : R ≠ 58 := fun e9 => by rw [e9, sp58] at hf; exact absurd hf.2 (by decide)
      have h61 : R ≠ 61 := fun e9 => by rw [e9, sp61] at hf; exact absurd hf.2 (by decide)
      simp only [if_neg h32, if_neg h58, if_neg h61]
  · rw [if_neg hf, if_pos h, escF_eq _ R _ (zi_three R)]
    unfold wrK
    by_cases h32 : R = 32
    · subst h32; simp [e32]
    by_cases h58 : R = 58
    · subst h58; simp [e58]
    by_cases h61 : R = 61
    · subst h61; simp [e61]
    have hn : ¬ (R = 32 ∨ R = 58 ∨ R = 61) := by omega
    simp only [if_neg h32, if_neg h58, if_neg h61, if_neg hn]
theorem encR_val (e : Nat) (f : Bool) (R : Nat) (h : e = 1 ∨ R < 256) : (encR ⟨#[]⟩ e f R).data.toList = wrV f R := by
  have hz : 0 ≤ ziF ⟨#[]⟩ R 0 ↔ False := ⟨fun h => zi_nil R h, fun h => h.elim⟩
  unfold encR
  by_cases hf : f = true ∧ Lib.isSpaceR R = true
  · rw [if_pos hf, escF_eq _ R _ (zi_one R), hf.1]
    unfold wrV
    by_cases h32 : R = 32
    · subst h32; simp [e32]
    · simp [h32]
  · rw [if_neg hf, if_pos h, escF_eq _ R _ hz]
    unfold wrV
    have hn : ¬ (f = true ∧ R = 32) := fun h9 => hf ⟨h9.1, by rw [h9.2]; exact sp32⟩
    simp only [if_neg hn, if_false]
theorem encL_key (e : Nat) : ∀ (rs : List Nat) (f : Bool), (∀ R ∈ rs, e = 1 ∨ R < 256) → encL qKey e f rs = keyT rs := by
  intro rs
  induction rs with
  | nil => intro f h; rfl
  | cons R rs ih =>
    intro f h
    show (encR qKey e f R).data.toList ++ encL qKey e false rs = wrK R ++ keyT rs
    rw [encR_key e f R (h R List.mem_cons_self), ih false (fun x hx => h x (List.mem_cons_of_mem _ hx))]
theorem encL_valF (e : Nat) : ∀ (rs : List Nat), (∀ R ∈ rs, e = 1 ∨ R < 256) → encL ⟨#[]⟩ e false rs = (rs.map (wrV false)).flatten := by
  intro rs
  induction rs with
  | nil => intro h; rfl
  | cons R rs ih =>
    intro h
    show (encR ⟨#[]⟩ e false R).data.toList ++ encL ⟨#[]⟩ e false rs = wrV false R ++ (rs.map (wrV false)).flatten
    rw [encR_val e false R (h R List.mem_cons_self), ih (fun x hx => h x (List.mem_cons_of_mem _ hx))]
theorem encL_val (e : Nat) (rs : List Nat) (h : ∀ R ∈ rs, e = 1 ∨ R < 256) : encL ⟨#[]⟩ e true rs = valT rs := by
  cases rs with
  | nil => rfl
  | cons R rs =>
    show (encR ⟨#[]⟩ e true R).data.toList ++ encL ⟨#[]⟩ e false rs = wrV true R ++ (rs.map (wrV false)).flatten
    rw [encR_val e true R (h R List.mem_cons_self), encL_valF e rs (fun x hx => h x (List.mem_cons_of_mem _ hx))]
theorem comE_T (c : ByteArray) : (comE c).data.toList = comT c := by
  unfold comE comT
  simp
/-- what is asked for the text -/
structure TOK (e : Nat) (nt : Bool) (d : PropD) : Prop where
  k : ∀ R ∈ rn d.key, e = 1 ∨ R < 256
  v : ∀ R ∈ rn d.raw, e = 1 ∨ R < 256
  c : nt = true ∨ d.com = []
theorem lineE_T (S : ByteArray) (e : Nat) (nt : Bool) (p : PSt) (d : PropD) (h : TOK e nt d) (hr : rawOf p.D d.key = d.raw) : (lineE S e p d.key).data.toList = lineT S.data.toList d := by
  unfold lineE lineT encT
  rw [hr, encL_key e _ true h.k, encL_val e _ h.v]
  simp
theorem notesE_T (f : Bool) (d : PropD) : notesE f d.com = notesT f d := by
  unfold notesE notesT
  have : (d.com.map fun c => (comE c).data.toList) = d.com.map comT := List.map_congr_left fun c _ => comE_T c
  rw [this]
theorem addT_T (S : ByteArray) (e : Nat) (nt : Bool) (p : PSt) (d : PropD) (h : TOK e nt d) (hr : rawOf p.D d.key = d.raw) (hc : (p.cf d.key).getD [] = d.com) (acc : List UInt8) : addT S e nt p acc d.key = acc ++ propT S.data.toList (decide (acc.length = 0)) d := by
  unfold addT propT
  rw [lineE_T S e nt p d h hr, hc, notesE_T]
  cases nt with
  | true => simp
  | false =>
    rcases h.c with h9 | h9
    · cases h9
    · unfold notesT
      simp [h9]
theorem propT_ne (S : List UInt8) (f : Bool) (d : PropD) : propT S f d ≠ [] := by
  unfold propT lineT
  simp
theorem fold_T (S : ByteArray) (e : Nat) (nt : Bool) (p : PSt) : ∀ (l : List PropD) (acc : List UInt8), (∀ d ∈ l, TOK e nt d ∧ rawOf p.D d.key = d.raw ∧ (p.cf d.key).getD [] = d.com) → (l.map (·.key)).foldl (addT S e nt p) acc = acc ++ allT S.data.toList (decide (acc.length = 0)) l := by
  intro l
  induction l with
  | nil => intro acc h; simp [allT]
  | cons d l ih =>
    intro acc h
    obtain ⟨h1, h2, h3⟩ := h d List.mem_cons_self
    rw [List.map_cons, List.foldl_cons, addT_T S e nt p d h1 h2 h3, ih _ (fun x hx => h x (List.mem_cons_of_mem _ hx))]
    have hz : decide ((acc ++ propT S.data.toList (decide (acc.length = 0)) d).length = 0) = false := by
      apply decide_eq_false
      rw [List.length_append]
      have := List.length_pos_iff.2 (propT_ne S.data.toList (decide (acc.length = 0)) d)
      omega
    rw [hz]
    simp [allT]
/-- the whole text -/
theorem allE_T (S : ByteArray) (e : Nat) (nt : Bool) (l : List PropD) (hn : (l.map (·.key)).Nodup) (h : ∀ d ∈ l, TOK e nt d) : allE S e nt (l.foldl addP pst0) (l.foldl addP pst0).ks = allT S.data.toList true l := by
  obtain ⟨a1, a2, a3⟩ := fold_facts l pst0 isMap_empty hn (fun d hd => ⟨rfl, rfl⟩)
  have e0 : (l.foldl addP pst0).ks = l.map (·.key) := a1
  unfold allE
  rw [e0, fold_T S e nt _ l [] (fun d hd => ⟨h d hd, a3 d hd⟩)]
  rfl
theorem cf_ne : ∀ (l : List PropD) (p : PSt), (∀ k c, p.cf k = some c → c ≠ []) → ∀ k c, (l.foldl addP p).cf k = some c → c ≠ [] := by
  intro l
  induction l with
  | nil => intro p h; exact h
  | cons d l ih =>
    intro p h
    refine ih _ (fun k c hk => ?_)
    rw [addP_cf] at hk
    split at hk
    · exact h k c hk
    · rename_i hne
      unfold updC at hk
      split at hk
      · injection hk with hk; subst hk; exact hne
      · exact h k c hk
/-- sizes of properties -/
structure SZ (d : PropD) : Prop where
  k0 : d.key.size ≠ 0
  k : d.key.size ≤ 10000
  v : d.raw.size ≤ 10000
  n : d.com.length ≤ 10000
  c : ∀ c ∈ d.com, c.size ≠ 0 ∧ c.size ≤ 10000
  ks : ∀ R ∈ rn d.key, SmallR R ∧ R ≤ 65535
  vs : ∀ R ∈ rn d.raw, SmallR R ∧ R ≤ 65535
theorem koks (l : List PropD) (hn : (l.map (·.key)).Nodup) (h : ∀ d ∈ l, SZ d) : ∀ k ∈ (l.foldl addP pst0).ks, KOK (l.foldl addP pst0) k ∧ COK (l.foldl addP pst0) k := by
  obtain ⟨a1, a2, a3⟩ := fold_facts l pst0 isMap_empty hn (fun d hd => ⟨rfl, rfl⟩)
  have e0 : (l.foldl addP pst0).ks = l.map (·.key) := a1
  rw [e0]
  intro k hk
  obtain ⟨d, hd, rfl⟩ := List.mem_map.1 hk
  obtain ⟨c1, c2⟩ := a3 d hd
  have hs := h d hd
  refine ⟨⟨hs.k, by rw [c1]; exact hs.v, hs.ks, by rw [c1]; exact hs.vs⟩, fun c hc => ?_⟩
  have he := cf_ne l pst0 (fun k c h => by cases h) d.key c hc
  rw [hc] at c2
  have c3 : c = d.com := c2
  subst c3
  exact ⟨he, hs.n, hs.c⟩
end Go.Proofs.YtgmhigjhooihdaaGreatDoor
