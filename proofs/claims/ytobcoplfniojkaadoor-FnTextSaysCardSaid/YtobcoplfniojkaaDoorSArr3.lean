/- Rows of three texts, compared. -/
import Derived.Test.YtobcoplfniojkaaDoorSPartS
import Derived.DeepKeys
namespace Go.Proofs.YtobcoplfniojkaaDoor
open Go.RowKit
theorem arr3_eq (a b c : ByteArray) (ha : a.size ≤ 1000) (hb : b.size ≤ 1000) (hc : c.size ≤ 1000) (w : World) : (Op.equalIn 10000 42 (.agg #[.string a, .string b, .string c]) (.agg #[.string a, .string b, .string c])).run Tryd.prog w = .ok true w := by
  have hk : Tryd.prog.keyTypeAt 5 42 = true := by kernel_rfl
  have u1 : Tryd.prog.underlying 42 = some (.array 3 9) := Tryd.underlying42
  have u2 : Tryd.prog.underlying 9 = some .string := Tryd.underlying9
  have z1 : Tryd.prog.cellsOf 42 = 3 := by kernel_rfl
  have z2 : Tryd.prog.cellsOf 9 = 1 := by kernel_rfl
  have ha2 : a.size ≤ maxLen := by unfold maxLen; omega
  have hb2 : b.size ≤ maxLen := by unfold maxLen; omega
  have hc2 : c.size ≤ maxLen := by unfold maxLen; omega
  obtain ⟨L, hl⟩ : ∃ L, Tryd.prog.keyLits 5 42 [.string a, .string b, .string c] = some L := by
    refine ⟨[.string a.data.toList, .string b.data.toList, .string c.data.toList], ?_⟩
    have e3 : List.range 3 = [0, 1, 2] := by decide
    simp [Program.keyLits, u1, u2, z1, z2, ha2, hb2, hc2, e3]
  have hf : (Value.agg #[.string a, .string b, .string c]).formed Tryd.prog 42 = true := by rfl
  obtain ⟨r, hr, hi⟩ := run_equalIn_deep 9995 5 42 hk w 5 5 _ _ L L hf hf hl hl
  rw [hi.2 rfl] at hr
  exact hr
theorem ext_le (s : ByteArray) (a b : Nat) : (s.extract a b).size ≤ s.size := by
  rw [ByteArray.size_extract]
  omega
theorem parts_le (s p : ByteArray) (hs : s.size ≤ 400) (hp : p.size ≤ 400) (r : Option Nat) : (p1 s p r).size ≤ 1000 ∧ (p2 s p r).size ≤ 1000 ∧ (p3 s p r).size ≤ 1000 ∧ (q1 s p r).size ≤ 1000 ∧ (q3 s p r).size ≤ 1000 := by
  cases r with
  | none => exact ⟨by show s.size ≤ 1000; omega, by show (0 : Nat) ≤ 1000; omega, by show (0 : Nat) ≤ 1000; omega, by show (0 : Nat) ≤ 1000; omega, by show s.size ≤ 1000; omega⟩
  | some i =>
    have h1 := ext_le s 0 i
    have h2 := ext_le s (i + p.size) s.size
    exact ⟨by show (s.extract 0 i).size ≤ 1000; omega, by show p.size ≤ 1000; omega, by show (s.extract (i + p.size) s.size).size ≤ 1000; omega, by show (s.extract 0 i).size ≤ 1000; omega, by show (s.extract (i + p.size) s.size).size ≤ 1000; omega⟩
end Go.Proofs.YtobcoplfniojkaaDoor
