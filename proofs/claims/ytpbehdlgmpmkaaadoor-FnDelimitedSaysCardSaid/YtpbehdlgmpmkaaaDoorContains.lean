/- The walk of zzContainsAny (strcase's): whether a character of one text stands in another one. -/
import Derived.Test.YtpbehdlgmpmkaaaDoorDec
import Derived.Test.YtpbehdlgmpmkaaaDoorCaseLaw
import Derived.WalkKit
import Derived.WalkSmall
import Derived.Deep.LoopGhost
namespace Go.Proofs.YtpbehdlgmpmkaaaDoor
open Go.RowKit Plain

/-- the runes of a text -/
def rnsOf (l : List UInt8) : List Nat := (segs l).map runeOf
theorem rnsOf_step (s : ByteArray) (pos : Nat) (hp : pos < s.size) : rnsOf (s.data.toList.drop pos) = (Utf8.decode s pos).1 :: rnsOf (s.data.toList.drop (pos + (Utf8.decode s pos).2)) := by
  have hne : s.data.toList.drop pos ≠ [] := by
    intro e
    have := congrArg List.length e
    rw [List.length_drop, ← Lib.size_eq] at this
    simp at this
    omega
  unfold rnsOf
  rw [segs_step _ hne, List.map_cons, List.drop_drop, Lib.decodeL_drop]
  congr 1
  unfold runeOf
  have := decodeL_take _ hne
  rw [Lib.decodeL_drop] at this
  rw [this]
theorem rnsOf_end (s : ByteArray) (pos : Nat) (hp : ¬ pos < s.size) : rnsOf (s.data.toList.drop pos) = [] := by
  have e0 : s.data.toList.drop pos = [] := List.drop_eq_nil_of_le (by rw [← Lib.size_eq]; omega)
  rw [e0]; rfl
def anyR (r : Nat) (l : List UInt8) : Bool := (rnsOf l).any (· == r)
def anyA (s l : List UInt8) : Bool := (rnsOf s).any fun r => anyR r l
def Found (b : Bool) (e : Ending) : Prop := ∃ n : Int, e = .returned (.int .i64 n) ∧ decide (0 ≤ n) = b
theorem keepIter {w wr : World} {B : Nat} {it : Obj} (hit : wr.heap[B]? = some it) (hbw : Below wr.heap.size wr w) : w.heap[B]? = some it := (hbw.block B (Array.getElem?_eq_some_iff.1 hit).1).trans hit

set_option maxHeartbeats 2000000 in
set_option maxRecDepth 100000 in
theorem indexAny_any (s t : ByteArray) (w : World) (hs : s.size ≤ 2147483647) (ht : t.size ≤ 2147483647) :
    Calls Tryd.prog 47 #[.string s, .string t] w fun e w' => Found (anyA s.data.toList t.data.toList) e ∧ Below w.heap.size w w' := by
  obtain ⟨ALL, hALL⟩ : ∃ ALL, anyA s.data.toList t.data.toList = ALL := ⟨_, rfl⟩
  rw [hALL]
  have HA := Lib.hid hALL
  clear hALL
  go_enter Tryd.func47, Tryd.ntmps47
  go_wp2
  go_loopg [] s.size (fun g wr => ∃ pos : Nat, wr.heap[w.heap.size]? = some (.stringIter s pos) ∧ g = s.size - pos ∧ pos ≤ s.size + 4 ∧ Below w.heap.size w wr ∧ anyA (s.data.toList.drop pos) t.data.toList = ALL)
  case atStart => exact ⟨0, World.iter_heap w s 0, rfl, by omega, (Below.refl _ w).alloc (Nat.le_refl _) _, by simpa using HA.out⟩
  case round =>
    obtain ⟨pos, hit, rfl, hps, hbw, hal⟩ := hrel
    have HC := Lib.hid hal
    clear hal
    have hsz : w.heap.size < wr.heap.size := (Array.getElem?_eq_some_iff.1 hit).1
    by_cases hp : pos < s.size
    · have hnx : ∀ ty, (Instr.next (.pointer (some ⟨w.heap.size, 0, none⟩)) true ty).run Tryd.prog wr = _ := fun ty => Lib.run_next_any_at wr w.heap.size s pos ty hit hp
      have hwd := Lib.decode_width_pos s pos hp
      have hd1 := decode_le s pos
      have hw4 : (Utf8.decode s pos).2 ≤ 4 := by rw [Lib.decode_at]; unfold Lib.decodeN; (repeat' split) <;> simp
      have hit2 := Lib.iterAt_heap wr w.heap.size s pos (pos + (Utf8.decode s pos).2) hit
      have hbw2 := Lib.below_iterAt hbw (k := w.heap.size) (by omega) s (pos + (Utf8.decode s pos).2)
      have HS := Lib.hid (rnsOf_step s pos hp)
      obtain ⟨R, hR⟩ : ∃ R, (Utf8.decode s pos).1 = R := ⟨_, rfl⟩
      obtain ⟨K, hK⟩ : ∃ K, (Utf8.decode s pos).2 = K := ⟨_, rfl⟩
      rw [hR, hK] at HS
      rw [hR] at hd1
      rw [hK] at hwd hw4 hit2 hbw2
      rw [hR, hK] at hnx
      clear hR hK
      obtain ⟨W1, hW1⟩ : ∃ W1, wr.iterAt w.heap.size s (pos + K) = W1 := ⟨_, rfl⟩
      rw [hW1] at hnx hit2 hbw2
      clear hW1 hit hbw hsz
      have hsz1 : w.heap.size < W1.heap.size := (Array.getElem?_eq_some_iff.1 hit2).1
      have HI := Lib.hid hit2
      clear hit2
      go_wp2
      clear hnx
      go_loopg [] t.size (fun g wq => ∃ q : Nat, wq.heap[W1.heap.size]? = some (.stringIter t q) ∧ g = t.size - q ∧ q ≤ t.size + 4 ∧ Below W1.heap.size W1 wq ∧ anyR R (t.data.toList.drop q) = anyR R t.data.toList)
      case atStart => exact ⟨0, World.iter_heap W1 t 0, rfl, by omega, (Below.refl _ W1).alloc (Nat.le_refl _) _, rfl⟩
      case round =>
        obtain ⟨q, hit, rfl, hqs, hbq, hal⟩ := hrel
        have HQ := Lib.hid hal
        clear hal
        have hsz : W1.heap.size < wr.heap.size := (Array.getElem?_eq_some_iff.1 hit).1
        by_cases hq : q < t.size
        · have hnx : ∀ ty, (Instr.next (.pointer (some ⟨W1.heap.size, 0, none⟩)) true ty).run Tryd.prog wr = _ := fun ty => Lib.run_next_any_at wr W1.heap.size t q ty hit hq
          have hwe := Lib.decode_width_pos t q hq
          have he1 := decode_le t q
          have he4 : (Utf8.decode t q).2 ≤ 4 := by rw [Lib.decode_at]; unfold Lib.decodeN; (repeat' split) <;> simp
          have hit3 := Lib.iterAt_heap wr W1.heap.size t q (q + (Utf8.decode t q).2) hit
          have hbq2 := Lib.below_iterAt hbq (k := W1.heap.size) (by omega) t (q + (Utf8.decode t q).2)
          have HT := Lib.hid (rnsOf_step t q hq)
          obtain ⟨D, hD⟩ : ∃ D, (Utf8.decode t q).1 = D := ⟨_, rfl⟩
          obtain ⟨J, hJ⟩ : ∃ J, (Utf8.decode t q).2 = J := ⟨_, rfl⟩
          rw [hD, hJ] at HT
          rw [hD] at he1
          rw [hJ] at hwe he4 hit3 hbq2
          rw [hD, hJ] at hnx
          clear hD hJ
          have HI3 := Lib.hid hit3
          have HI1 := Lib.hid hit
          clear hit3 hit
          by_cases hrd : R = D
          · have hbe : (((R : Int)) == ((D : Int))) = true := by rw [beq_iff_eq]; omega
            have HRD := Lib.hid hrd
            clear hrd
            go_wp2
            go_ret
            refine ⟨⟨(pos : Int), rfl, ?_⟩, hbw2.trans (hbq2.mono (by omega))⟩
            have h1 := HC.out
            have h2 := HQ.out
            unfold anyA at h1
            rw [HS.out, List.any_cons, ← h2] at h1
            unfold anyR at h1
            rw [HT.out, List.any_cons, HRD.out] at h1
            simp at h1
            rw [h1]
            simp
          · have hbe : (((R : Int)) == ((D : Int))) = false := by rw [beq_eq_false_iff_ne]; omega
            have HRD := Lib.hid hrd
            clear hrd
            go_wp2
            go_roundg (t.size - (q + J))
            case measure => omega
            case rel =>
              refine ⟨q + J, HI3.out, rfl, by omega, hbq2, ?_⟩
              have h2 := HQ.out
              rw [← h2]
              unfold anyR
              rw [HT.out, List.any_cons]
              have : (D == R) = false := by rw [beq_eq_false_iff_ne]; exact fun e => HRD.out e.symm
              rw [this, Bool.false_or]
        · have hnx : ∀ ty, (Instr.next (.pointer (some ⟨W1.heap.size, 0, none⟩)) true ty).run Tryd.prog wr = _ := fun ty => Lib.run_next_end_at wr W1.heap.size t q ty hit hq
          clear hit
          go_wp2
          go_roundg (s.size - (pos + K))
          case measure => omega
          case rel =>
            refine ⟨pos + K, (hbq.block _ hsz1).trans HI.out, rfl, by omega, hbw2.trans (hbq.mono (by omega)), ?_⟩
            have h1 := HC.out
            have h2 := HQ.out
            rw [← h1]
            unfold anyA
            rw [HS.out, List.any_cons, ← h2]
            unfold anyR
            rw [rnsOf_end t q hq]
            simp
    · have hnx : ∀ ty, (Instr.next (.pointer (some ⟨w.heap.size, 0, none⟩)) true ty).run Tryd.prog wr = _ := fun ty => Lib.run_next_end_at wr w.heap.size s pos ty hit hp
      go_wp2
      go_ret
      have := HC.out
      unfold anyA at this
      rw [rnsOf_end s pos hp] at this
      exact ⟨⟨-1, rfl, by rw [← this]; rfl⟩, hbw⟩

set_option maxRecDepth 100000 in
theorem containsAny_any (s t : ByteArray) (w : World) (hs : s.size ≤ 2147483647) (ht : t.size ≤ 2147483647) (b : Bool) (h : anyA s.data.toList t.data.toList = b) :
    Calls Tryd.prog 38 #[.string s, .string t] w fun e w' => e = .returned (.bool b) ∧ Below w.heap.size w w' := by
  have hX := indexAny_any s t w hs ht
  rw [h] at hX
  have HX := Lib.hid hX
  clear hX h
  go_enter Tryd.func38, Tryd.ntmps38
  go_wp2_with (go_at_call 47; (with_reducible refine HX.out.mono ?_))
  rintro e w1 ⟨⟨n, rfl, hn⟩, hb⟩
  dsimp only
  go_wp2
  go_ret
  exact ⟨rfl, hb⟩
/-- a lone byte's character -/
theorem anyA_byte (b : UInt8) (t : List UInt8) : anyA (Lib.encodeRune (b.toNat : Int)) t = hasB t b := by
  have hg : Plain.segs (Lib.encodeRune (b.toNat : Int)) = [Lib.encodeRune (b.toNat : Int)] ∧ runeOf (Lib.encodeRune (b.toNat : Int)) = b.toNat := by
    have h := byte_all (p := fun b => (Plain.segs (Lib.encodeRune (b.toNat : Int)) == [Lib.encodeRune (b.toNat : Int)]) && (runeOf (Lib.encodeRune (b.toNat : Int)) == b.toNat)) (by decide +kernel) b
    simpa using h
  unfold anyA rnsOf
  rw [hg.1]
  simp only [List.map_cons, List.map_nil, List.any_cons, List.any_nil, Bool.or_false]
  rw [hg.2]
  unfold anyR hasB rnsOf
  rw [List.any_map]
  rfl
end Go.Proofs.YtpbehdlgmpmkaaaDoor
