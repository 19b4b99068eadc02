/- laws.loads: the example of loading. -/
import Derived.Test.YtackciefmdiphaaDoorLoadE
import Derived.Test.YtackciefmdiphaaDoorEqPr
import Derived.Test.YtackciefmdiphaaDoorLexF
set_option linter.unusedVariables false
namespace Go.Proofs.YtackciefmdiphaaDoor
open Go.RowKit Plain Go.Maps

/-- the same, on the bytes' lists: for the kernel to reckon -/
def zixD (s t : ByteArray) : Nat → Nat → Option Nat
  | 0, _ => none
  | f + 1, i => if i + t.size ≤ s.size then (if (s.extract i (i + t.size)).data.toList == t.data.toList then some i else zixD s t f (i + 1)) else none
theorem zixD_eq (s t : ByteArray) : ∀ (f i : Nat), zixN s t f i = zixD s t f i := by
  intro f
  induction f with
  | zero => intro i; rfl
  | succ f ih =>
    intro i
    unfold zixN zixD
    rw [ByteArray.toList_eq, ByteArray.toList_eq, ih]
def memD (key : ByteArray) (keys : List ByteArray) : Bool := keys.any fun k => key.data.toList == k.data.toList
theorem memD_eq (key : ByteArray) (keys : List ByteArray) : memK key keys = memD key keys := by
  unfold memK memD
  congr 1
  funext k
  rw [ByteArray.toList_eq, ByteArray.toList_eq]
def expD (D : ByteArray → ByteArray) : Nat → List ByteArray → ByteArray → Option (Option ByteArray)
  | 0, _, _ => none
  | f + 1, keys, s =>
    if s.size ≤ 1152921504606846976 then
      if 64 < keys.length then some none
      else match zixD s dlB (s.size + 2) 0 with
      | none => some (some s)
      | some p => match zixD (s.extract (p + 2) s.size) brB ((s.extract (p + 2) s.size).size + 2) 0 with
        | none => some none
        | some q =>
          if memD (s.extract (p + 2) (p + 2 + q)) keys then some none
          else match expD D f (keys ++ [s.extract (p + 2) (p + 2 + q)]) (D (s.extract (p + 2) (p + 2 + q))) with
          | none => none
          | some none => some none
          | some (some v) => expD D f keys (s.extract 0 p ++ v ++ s.extract (p + 2 + q + 1) s.size)
    else none
theorem expD_eq (D : ByteArray → ByteArray) : ∀ (f : Nat) (keys : List ByteArray) (s : ByteArray), expF D f keys s = expD D f keys s := by
  intro f
  induction f with
  | zero => intro keys s; rfl
  | succ f ih =>
    intro keys s
    unfold expF expD zix
    simp only [zixD_eq, memD_eq, ih]
    rfl
def txLD : ByteArray := ⟨#[97, 61, 98, 10, 99, 58, 32, 36, 123, 97, 125]⟩
def kA : ByteArray := ⟨#[97]⟩
def kB : ByteArray := ⟨#[98]⟩
def kC : ByteArray := ⟨#[99]⟩
def vC : ByteArray := ⟨#[36, 123, 97, 125]⟩
theorem lexL_ld : lexL txLD = [⟨2, 0, kA⟩, ⟨3, 2, kB⟩, ⟨2, 4, kC⟩, ⟨3, 7, vC⟩, ⟨1, 11, ⟨#[]⟩⟩] := lexL_eq _ 40 _ (by rfl)
def pLD : PSt := putV (addC (addK (putV (addC (addK pst0 kA) kA []) kA kB) kC) kC []) kC vC
theorem parL_ld : parL (lexL (unbom txLD)) [] pst0 = some pLD := by
  rw [unbom_no (by rfl), lexL_ld]
  unfold parL
  simp
  unfold parL
  simp
  unfold parL
  simp
  rfl
def ekLD (k : ByteArray) : Option ByteArray := some kB
theorem pLD_D : pLD.D = ((DataW.map []).put (keyL8 kA) (.lit (.string kB.data.toList))).put (keyL8 kC) (.lit (.string vC.data.toList)) := by rfl
theorem ea_LD : ExpAll pLD.D ekLD := by
  intro k hk
  rw [pLD_D] at hk
  by_cases h1 : k = kC
  · subst h1
    exact ⟨10, (expD_eq _ _ _ _).trans (by rfl)⟩
  · have hne : keyL8 k ≠ keyL8 kC := fun e => h1 (keyL8_inj e)
    rw [has_put_other hne] at hk
    by_cases h2 : k = kA
    · subst h2
      exact ⟨10, (expD_eq _ _ _ _).trans (by rfl)⟩
    · have hne2 : keyL8 k ≠ keyL8 kA := fun e => h2 (keyL8_inj e)
      rw [has_put_other hne2] at hk
      cases hk
theorem lLD : pLD.ks.map (dataOf pLD (fun k => (ekLD k).getD ⟨#[]⟩)) = [⟨kA, kB, kB, []⟩, ⟨kC, vC, kB, []⟩] := by rfl
set_option maxHeartbeats 2000000 in
set_option maxRecDepth 100000 in
theorem loads_any (w : World) (hT : Tabs w) : Calls Tryd.prog 4 #[] w fun e w' => e = .returned (.bool true) ∧ Below w.heap.size w w' := by
  have HL : Hid (Calls Tryd.prog 6 #[.string ⟨#[97, 61, 98, 10, 99, 58, 32, 36, 123, 97, 125]⟩, .int .i64 1, .bool false] w fun e w' => Below w.heap.size w w' ∧ ∃ v, e = .returned (.tuple #[v, .bool true]) ∧ PRow w.heap.size v [⟨kA, kB, kB, []⟩, ⟨kC, vC, kB, []⟩] w') := Lib.hid ((loadProps_exp txLD w (by decide) hT (some pLD) parL_ld ekLD (fun p hp => by injection hp with hp; subst hp; exact ea_LD)).mono (by
    rintro e w' ⟨hb, ⟨v, rfl, hr, _⟩ | ⟨_, k, _, hk⟩⟩
    · rw [lLD] at hr
      exact ⟨hb, v, rfl, hr⟩
    · cases hk))
  clear hT
  go_enter Tryd.func4, Tryd.ntmps4
  go_wp2_with (go_at_call 6; (with_reducible refine HL.out.mono ?_); rintro e w1 ⟨hb1, v, rfl, us, hu1, hu2, _⟩; obtain ⟨a2, cp2, rfl⟩ := slq_any hu2; obtain ⟨g2, rfl⟩ := slq_pos hu2 (by decide); obtain ⟨u0, hu0⟩ : ∃ u, us[1]? = some u := ⟨_, List.getElem?_eq_getElem (by rw [hu1]; decide)⟩; obtain ⟨z0, z1, z2, _⟩ := prow_cells hu2 (i := 1) (d := ⟨kC, vC, kB, []⟩) (by decide) rfl hu0; change w1.cell? ⟨g2, 4, none⟩ = some (.string ⟨#[99]⟩) at z0; change w1.cell? ⟨g2, 5, none⟩ = some (.string ⟨#[36, 123, 97, 125]⟩) at z1; change w1.cell? ⟨g2, 6, none⟩ = some (.string ⟨#[98]⟩) at z2; change Below _ _ _ at hb1; have HB1 := Lib.hid hb1; clear hu0 hu1 hu2 hb1; dsimp only)
  go_ret
  exact ⟨rfl, HB1.out⟩
end Go.Proofs.YtackciefmdiphaaDoor
