/- The walk of (*Properties).WriteComment, any properties, into a strings.Builder. -/
import Derived.Test.YtgmhigjhooihdaaGreatDoorWEnc2
import Derived.Test.YtgmhigjhooihdaaGreatDoorGivenA
import Derived.Test.YtgmhigjhooihdaaGreatDoorQWr
import Derived.Test.YtgmhigjhooihdaaGreatDoorEqPr
set_option linter.unusedVariables false
namespace Go.Proofs.YtgmhigjhooihdaaGreatDoor
open Go.RowKit Plain Go.Maps

def qKey : ByteArray := ⟨#[32, 58, 61]⟩
def lineE (S : ByteArray) (e : Nat) (p : PSt) (k : ByteArray) : ByteArray := encT qKey e k ++ S ++ encT ⟨#[]⟩ e (rawOf p.D k) ++ ⟨#[10]⟩
def comE (c : ByteArray) : ByteArray := (⟨#[35, 32]⟩ : ByteArray) ++ c ++ ⟨#[10]⟩
def notesE (f : Bool) (cs : List ByteArray) : List UInt8 := if cs = [] then [] else (if f then [] else [10]) ++ (cs.map fun c => (comE c).data.toList).flatten
def comsE (cs : List ByteArray) : List UInt8 := (cs.map fun c => (comE c).data.toList).flatten
theorem comsE_take (cs : List ByteArray) (j : Nat) (c : ByteArray) (h : cs[j]? = some c) : comsE (cs.take (j + 1)) = comsE (cs.take j) ++ (comE c).data.toList := by
  unfold comsE
  rw [List.take_add_one, h]
  simp
def addT (S : ByteArray) (e : Nat) (nt : Bool) (p : PSt) (acc : List UInt8) (k : ByteArray) : List UInt8 := (if nt then acc ++ notesE (decide (acc.length = 0)) ((p.cf k).getD []) else acc) ++ (lineE S e p k).data.toList
def allE (S : ByteArray) (e : Nat) (nt : Bool) (p : PSt) (ks : List ByteArray) : List UInt8 := ks.foldl (addT S e nt p) []
theorem allE_take (S : ByteArray) (e : Nat) (nt : Bool) (p : PSt) (ks : List ByteArray) (i : Nat) (k : ByteArray) (h : ks[i]? = some k) : allE S e nt p (ks.take (i + 1)) = addT S e nt p (allE S e nt p (ks.take i)) k := by
  unfold allE
  rw [List.take_add_one, h]
  simp
/-- what is asked of a key -/
structure KOK (p : PSt) (k : ByteArray) : Prop where
  k1 : k.size ≤ 10000
  v1 : (rawOf p.D k).size ≤ 10000
  ks : ∀ R ∈ rn k, SmallR R ∧ R ≤ 65535
  vs : ∀ R ∈ rn (rawOf p.D k), SmallR R ∧ R ≤ 65535
/-- what is asked of comments -/
def COK (p : PSt) (k : ByteArray) : Prop := ∀ l, p.cf k = some l → l ≠ [] ∧ l.length ≤ 10000 ∧ ∀ c ∈ l, c.size ≠ 0 ∧ c.size ≤ 10000
theorem comE_size (c : ByteArray) : (comE c).size = c.size + 3 := by
  unfold comE
  rw [ByteArray.size_append, ByteArray.size_append]
  show 2 + c.size + 1 = _
  omega
theorem comsE_len (cs : List ByteArray) (h : ∀ c ∈ cs, c.size ≤ 10000) : ((cs.map fun c => (comE c).data.toList).flatten).length ≤ 10003 * cs.length := by
  induction cs with
  | nil => exact Nat.zero_le _
  | cons c cs ih =>
    have h1 := ih (fun x hx => h x (List.mem_cons_of_mem _ hx))
    have h2 := comE_size c
    have h3 := h c List.mem_cons_self
    rw [Lib.size_eq] at h2
    rw [List.map_cons, List.flatten_cons, List.length_append, List.length_cons]
    omega
theorem lineE_size (S : ByteArray) (e : Nat) (p : PSt) (k : ByteArray) (h : KOK p k) (hS : S.size ≤ 10) : (lineE S e p k).size ≤ 130000 ∧ 1 ≤ (lineE S e p k).size := by
  have h1 := encT_size qKey e k
  have h2 := encT_size ⟨#[]⟩ e (rawOf p.D k)
  have h3 := h.k1
  have h4 := h.v1
  have h5 : (lineE S e p k).size = (encT qKey e k).size + S.size + (encT ⟨#[]⟩ e (rawOf p.D k)).size + 1 := by unfold lineE; simp [ByteArray.size_append]; rfl
  omega
theorem next_len {A : List UInt8} {s : ByteArray} : (A ++ s.data.toList).length = A.length + s.size := by rw [List.length_append, Lib.size_eq]
theorem held_eq {v0 v : Value} {y : DataW Value} {ps : List MemPlace} (h : rawR v0 = some (y, ps)) (h2 : y = .held v) : v0 = v := by
  unfold rawR at h
  injection h with h
  injection h with h1 _
  rw [h2] at h1
  injection h1 with h1
structure WST (b : Nat) (w wr : World) (Z : List UInt8) : Prop where
  is : IsB b Z wr
  bel : Below b w wr
theorem WST.write {b : Nat} {w wr w' : World} {Z : List UInt8} {s : ByteArray} (h : WST b w wr Z) (h1 : IsB b (Z ++ s.data.toList) w') (h2 : Below b wr w') : WST b w w' (Z ++ s.data.toList) := ⟨h1, h.bel.trans h2⟩
theorem WST.go {b : Nat} {w wr w' : World} {Z : List UInt8} (h : WST b w wr Z) (hb : Below wr.heap.size wr w') : WST b w w' Z := ⟨h.is.below hb, h.bel.trans (hb.mono (Nat.le_of_lt h.is.lt))⟩
set_option maxHeartbeats 16000000 in
set_option maxRecDepth 100000 in
theorem wcP_any (B pb mb mc : Nat) (p : PSt) (DC : DataW Value) (lv : Value) (sep S : ByteArray) (e : Nat) (he : e = 1 ∨ e = 2) (b : Nat) (w : World) (hG : ∀ y, Below b w y → PGr B pb mb mc p DC lv true sep y) (hb : IsB b [] w) (hT : ∀ y, Below b w y → WTab y)
    (hn : p.ks.length ≤ 100000) (hS : S.size ≤ 10) (hsep : sep.size ≤ 10) (hK : ∀ k ∈ p.ks, KOK p k) (hc : (sep = ⟨#[]⟩ ∧ S = ⟨#[32, 61, 32]⟩) ∨ (¬ sep.size = 0 ∧ S = sep)) :
    Calls Tryz.prog 46 #[.pointer (some ⟨pb, 0, none⟩), .iface 88 (.pointer (some ⟨b, 0, none⟩)), .string ⟨#[]⟩, .int .u64 (e : Int)] w
      fun e' w' => ∃ N : Nat, e' = .returned (.tuple #[.int .i64 (N : Int), .nilIface]) ∧ N = (allE S e false p p.ks).length ∧ WST b w w' (allE S e false p p.ks) := by
  have HG := Lib.hid hG
  have HT := Lib.hid hT
  have HKK := Lib.hid hK
  have HW0 : Hid (WST b w w []) := Lib.hid ⟨hb, Below.refl _ _⟩
  obtain ⟨_, _, c5, _⟩ := seven_cells (hG w (Below.refl _ _)).blk
  obtain ⟨n, hN⟩ : ∃ n, p.ks.length = n := ⟨_, rfl⟩
  obtain ⟨ad, lcap, hlv⟩ := slq_any (hG w (Below.refl _ _)).row
  have HN := Lib.hid hN
  have HLV := Lib.hid hlv
  rw [hN] at hn hlv
  subst hlv
  clear hG hT hK hb hN
  go_enter Tryz.func46, Tryz.ntmps46
  go_wp2
  clear c5
  go_loopg [27, 8, 9] n (fun gh iv nv ev wr => ∃ i N : Nat, iv = .int .i64 (i : Int) ∧ i ≤ n ∧ gh = n - i ∧ nv = .int .i64 (N : Int) ∧ ev = .nilIface ∧ N ≤ 200000000 * i ∧ Hid (N = (allE S e false p (p.ks.take i)).length) ∧ Hid (WST b w wr (allE S e false p (p.ks.take i))))
  case atStart => exact ⟨0, 0, rfl, Nat.zero_le _, rfl, rfl, rfl, Nat.le_refl _, Lib.hid rfl, HW0⟩
  case round =>
    obtain ⟨i, N, rfl, hin, rfl, rfl, rfl, hNb, HL, HZ⟩ := hrel
    by_cases hlt : i < n
    · have hiz : (i : Int) < (n : Int) := by omega
      obtain ⟨k, hk⟩ : ∃ x, p.ks[i]? = some x := ⟨_, List.getElem?_eq_getElem (by have := HN.out; omega)⟩
      have hkm := List.mem_of_getElem? hk
      have hP := HG.out wr HZ.out.bel
      have hrow := hP.row
      rw [HN.out] at hrow
      obtain ⟨lg, rfl⟩ : ∃ g, ad = some ⟨g, 0, none⟩ := slq_pos hrow (by omega)
      have x0 : wr.cell? ⟨lg, i, none⟩ = some (.string k) := by
        rw [hrow.cellAt i (by omega)]
        simp [hk]
      have hok := HKK.out k hkm
      have hks := hok.k1
      have hvs := hok.v1
      have hkm2 : k.size ≤ maxLen := by unfold maxLen; omega
      obtain ⟨V, hV⟩ : ∃ V, rawOf p.D k = V := ⟨_, rfl⟩
      have HV := Lib.hid hV
      have hls := lineE_size S e p k hok hS
      have HE1 : Hid (∀ y, Below b w y → Calls Tryz.prog 73 #[.string k, .string ⟨#[32, 58, 61]⟩, .int .u64 (e : Int)] y fun e' w' => e' = .returned (.string (encT qKey e k)) ∧ Below y.heap.size y w') := Lib.hid (fun y hy => enc_all e he k qKey y (by omega) (by decide) hok.ks (HT.out y hy))
      have HE2 : Hid (∀ y, Below b w y → Calls Tryz.prog 73 #[.string V, .string ⟨#[]⟩, .int .u64 (e : Int)] y fun e' w' => e' = .returned (.string (encT ⟨#[]⟩ e V)) ∧ Below y.heap.size y w') := Lib.hid (fun y hy => hV ▸ enc_all e he (rawOf p.D k) ⟨#[]⟩ y (by omega) (by decide) hok.vs (HT.out y hy))
      have HTK := Lib.hid (allE_take S e false p p.ks i k hk)
      have hes1 := encT_size qKey e k
      have hes2 : (encT ⟨#[]⟩ e V).size ≤ 60000 := by have := encT_size ⟨#[]⟩ e V; rw [← hV] at this ⊢; omega
      obtain ⟨E1, hE1⟩ : ∃ E, encT qKey e k = E := ⟨_, rfl⟩
      obtain ⟨E2, hE2⟩ : ∃ E, encT ⟨#[]⟩ e V = E := ⟨_, rfl⟩
      obtain ⟨LN, hLN⟩ : ∃ L, lineE S e p k = L := ⟨_, rfl⟩
      have hle : LN = E1 ++ S ++ E2 ++ ⟨#[10]⟩ := by rw [← hLN, ← hE1, ← hE2, ← hV]; rfl
      have HLE := Lib.hid hle
      obtain ⟨LNZ, hLNZ⟩ : ∃ L, LN.size = L := ⟨_, rfl⟩
      rw [hLN, hLNZ] at hls
      have HLNZ := Lib.hid hLNZ
      have HLNE := Lib.hid hLN
      rw [hE1] at HE1 hes1
      rw [hE2] at HE2 hes2
      have HMP := Lib.hid hP.mp
      obtain ⟨d2, d3, d5, d6, _⟩ := seven_cells hP.blk
      have hpl := lt_of_block hP.blk
      have HPB := Lib.hid hP.blk
      have hIB := HZ.out.is.lt

      clear hV hE1 hE2 hLN hLNZ hle hok hk hkm hP hrow
      rcases hc with ⟨rfl, rfl⟩ | ⟨hs0, rfl⟩
      rotate_left
      have hse : S.toList.isEmpty = false := by
        rw [ByteArray.toList_eq]
        cases h9 : S.data.toList with
        | nil => exact absurd (by rw [Lib.size_eq, h9]; rfl) hs0
        | cons a l => rfl
      all_goals
        go_wp2_with (first
          | (at_lookup; refine look_ss _ rfl _ _ rfl mb _ p.D rfl HMP.out k rfl hkm2 ?_; intro c hc9; have hc' := rawOf_of hc9; rw [HV.out] at hc'; subst hc'; clear hc9)
          | (go_at_call 73; (with_reducible refine (HE1.out _ HZ.out.bel).mono ?_); rintro e' w1 ⟨rfl, hb1⟩; have HW1 := Lib.hid (HZ.out.go hb1); clear hb1; dsimp only)
          | (go_at_call 73; (with_reducible refine (HE2.out _ HW1.out.bel).mono ?_); rintro e' w2 ⟨rfl, hb2⟩; have HW2 := Lib.hid (HW1.out.go hb2); clear hb2; dsimp only)
          | (go_at_call 72; (try rw [← HLE.out]); (with_reducible refine (ioWr_any b _ _ _ HW2.out.is (by have := HL.out; have := HLNZ.out; omega)).mono ?_); rw [HLNZ.out]; rintro e' w3 ⟨rfl, hi3, hb3, _⟩; have HW3 := Lib.hid (HW2.out.write hi3 hb3); clear hi3 hb3; dsimp only))
        go_roundg (n - (i + 1))
        case measure => omega
        case rel => exact ⟨i + 1, N + LNZ, by go_num, by omega, rfl, by go_num, rfl, by omega, Lib.hid (by rw [HTK.out]; unfold addT; rw [HLNE.out, if_neg (by decide), next_len, ← HL.out, HLNZ.out]), Lib.hid (by rw [HTK.out]; unfold addT; rw [HLNE.out, if_neg (by decide)]; exact HW3.out)⟩
    · have hiz : ¬ (i : Int) < (n : Int) := by omega
      obtain rfl : i = n := by omega
      go_wp2_with fail
      refine bodyPost_ret (v := .tuple #[.int .i64 (N : Int), .nilIface]) (by simp [results, Tryz.results46, go_sem]; try rfl) (by rfl) ?_
      have e1 : p.ks.take i = p.ks := List.take_of_length_le (Nat.le_of_eq HN.out)
      rw [e1] at HL HZ
      exact ⟨N, rfl, HL.out, HZ.out⟩
set_option maxHeartbeats 16000000 in
set_option maxRecDepth 100000 in
theorem wcN_any (B pb mb mc : Nat) (p : PSt) (DC : DataW Value) (lv : Value) (sep S : ByteArray) (e : Nat) (he : e = 1 ∨ e = 2) (b : Nat) (w : World) (hG : ∀ y, Below b w y → PGr B pb mb mc p DC lv true sep y) (hb : IsB b [] w) (hT : ∀ y, Below b w y → WTab y)
    (hn : p.ks.length ≤ 100000) (hS : S.size ≤ 10) (hsep : sep.size ≤ 10) (hK : ∀ k ∈ p.ks, KOK p k) (hC : ∀ k ∈ p.ks, COK p k) (hc : (sep = ⟨#[]⟩ ∧ S = ⟨#[32, 61, 32]⟩) ∨ (¬ sep.size = 0 ∧ S = sep)) :
    Calls Tryz.prog 46 #[.pointer (some ⟨pb, 0, none⟩), .iface 88 (.pointer (some ⟨b, 0, none⟩)), .string ⟨#[35, 32]⟩, .int .u64 (e : Int)] w
      fun e' w' => ∃ N : Nat, e' = .returned (.tuple #[.int .i64 (N : Int), .nilIface]) ∧ N = (allE S e true p p.ks).length ∧ WST b w w' (allE S e true p p.ks) := by
  have HG := Lib.hid hG
  have HT := Lib.hid hT
  have HKK := Lib.hid hK
  have HCC := Lib.hid hC
  have HW0 : Hid (WST b w w []) := Lib.hid ⟨hb, Below.refl _ _⟩
  obtain ⟨_, _, c5, _⟩ := seven_cells (hG w (Below.refl _ _)).blk
  obtain ⟨n, hN⟩ : ∃ n, p.ks.length = n := ⟨_, rfl⟩
  obtain ⟨ad, lcap, hlv⟩ := slq_any (hG w (Below.refl _ _)).row
  have HN := Lib.hid hN
  have HLV := Lib.hid hlv
  rw [hN] at hn hlv
  subst hlv
  clear hG hT hK hb hN hC
  go_enter Tryz.func46, Tryz.ntmps46
  go_wp2
  clear c5
  go_loopg [27, 8, 9] n (fun gh iv nv ev wr => ∃ i N : Nat, iv = .int .i64 (i : Int) ∧ i ≤ n ∧ gh = n - i ∧ nv = .int .i64 (N : Int) ∧ ev = .nilIface ∧ N ≤ 200000000 * i ∧ Hid (N = (allE S e true p (p.ks.take i)).length) ∧ Hid (WST b w wr (allE S e true p (p.ks.take i))))
  case atStart => exact ⟨0, 0, rfl, Nat.zero_le _, rfl, rfl, rfl, Nat.le_refl _, Lib.hid rfl, HW0⟩
  case round =>
    obtain ⟨i, N, rfl, hin, rfl, rfl, rfl, hNb, HL, HZ⟩ := hrel
    by_cases hlt : i < n
    · have hiz : (i : Int) < (n : Int) := by omega
      obtain ⟨k, hk⟩ : ∃ x, p.ks[i]? = some x := ⟨_, List.getElem?_eq_getElem (by have := HN.out; omega)⟩
      have hkm := List.mem_of_getElem? hk
      have hP := HG.out wr HZ.out.bel
      have hrow := hP.row
      rw [HN.out] at hrow
      obtain ⟨lg, rfl⟩ : ∃ g, ad = some ⟨g, 0, none⟩ := slq_pos hrow (by omega)
      have x0 : wr.cell? ⟨lg, i, none⟩ = some (.string k) := by
        rw [hrow.cellAt i (by omega)]
        simp [hk]
      have hok := HKK.out k hkm
      have hks := hok.k1
      have hvs := hok.v1
      have hkm2 : k.size ≤ maxLen := by unfold maxLen; omega
      obtain ⟨V, hV⟩ : ∃ V, rawOf p.D k = V := ⟨_, rfl⟩
      have HV := Lib.hid hV
      have hls := lineE_size S e p k hok hS
      have HE1 : Hid (∀ y, Below b w y → Calls Tryz.prog 73 #[.string k, .string ⟨#[32, 58, 61]⟩, .int .u64 (e : Int)] y fun e' w' => e' = .returned (.string (encT qKey e k)) ∧ Below y.heap.size y w') := Lib.hid (fun y hy => enc_all e he k qKey y (by omega) (by decide) hok.ks (HT.out y hy))
      have HE2 : Hid (∀ y, Below b w y → Calls Tryz.prog 73 #[.string V, .string ⟨#[]⟩, .int .u64 (e : Int)] y fun e' w' => e' = .returned (.string (encT ⟨#[]⟩ e V)) ∧ Below y.heap.size y w') := Lib.hid (fun y hy => hV ▸ enc_all e he (rawOf p.D k) ⟨#[]⟩ y (by omega) (by decide) hok.vs (HT.out y hy))
      have HTK := Lib.hid (allE_take S e true p p.ks i k hk)
      have hes1 := encT_size qKey e k
      have hes2 : (encT ⟨#[]⟩ e V).size ≤ 60000 := by have := encT_size ⟨#[]⟩ e V; rw [← hV] at this ⊢; omega
      obtain ⟨E1, hE1⟩ : ∃ E, encT qKey e k = E := ⟨_, rfl⟩
      obtain ⟨E2, hE2⟩ : ∃ E, encT ⟨#[]⟩ e V = E := ⟨_, rfl⟩
      obtain ⟨LN, hLN⟩ : ∃ L, lineE S e p k = L := ⟨_, rfl⟩
      have hle : LN = E1 ++ S ++ E2 ++ ⟨#[10]⟩ := by rw [← hLN, ← hE1, ← hE2, ← hV]; rfl
      have HLE := Lib.hid hle
      obtain ⟨LNZ, hLNZ⟩ : ∃ L, LN.size = L := ⟨_, rfl⟩
      rw [hLN, hLNZ] at hls
      have HLNZ := Lib.hid hLNZ
      have HLNE := Lib.hid hLN
      rw [hE1] at HE1 hes1
      rw [hE2] at HE2 hes2
      have HMP := Lib.hid hP.mp
      obtain ⟨d2, d3, d5, d6, _⟩ := seven_cells hP.blk
      have hpl := lt_of_block hP.blk
      have HPB := Lib.hid hP.blk
      have hIB := HZ.out.is.lt

      have HCK := Lib.hid (HCC.out k hkm)
      have c4 : wr.cell? ⟨pb, 4, none⟩ = some (.map (some mc)) := by simp [World.cell?, HPB.out]
      have HCP := Lib.hid hP.cp
      have HCR := Lib.hid (hP.cr k)
      clear hV hE1 hE2 hLN hLNZ hle hok hk hkm hP hrow
      obtain ⟨co, hco⟩ : ∃ o, p.cf k = o := ⟨_, rfl⟩
      cases co with
      | none =>
        have hhb : Maps.has DC (.string k.data.toList) = false := HCR.out.1 hco
        have HHC : Hid ((p.cf k).getD [] = []) := Lib.hid (by rw [hco]; rfl)
        clear hco
        rcases hc with ⟨rfl, rfl⟩ | ⟨hs0, rfl⟩
        rotate_left
        have hse : S.toList.isEmpty = false := by
          rw [ByteArray.toList_eq]
          cases h9 : S.data.toList with
          | nil => exact absurd (by rw [Lib.size_eq, h9]; rfl) hs0
          | cons a l => rfl
        all_goals
          go_wp2_with (first
            | (at_lookup; refine look_ss _ rfl _ _ rfl mb _ p.D rfl HMP.out k rfl hkm2 ?_; intro c hc9; have hc' := rawOf_of hc9; rw [HV.out] at hc'; subst hc'; clear hc9)
            | (at_lookup; refine wpList_lookup_own_ok _ rfl _ _ 63 rfl 9 32 lawS Tryz.underlying63 rawR (zeroRow _) (.held (.slice none 0 0)) [] rfl mc _ DC rfl HCP.out _ _ rfl (WideMaps.keyOf_string_mk Tryz.underlying9 hkm2) ?_; intro v0 ps0 hv0; rw [hhb]; clear hv0)
            | (go_at_call 73; (with_reducible refine (HE1.out _ HZ.out.bel).mono ?_); rintro e' w1 ⟨rfl, hb1⟩; have HW1 := Lib.hid (HZ.out.go hb1); clear hb1; dsimp only)
            | (go_at_call 73; (with_reducible refine (HE2.out _ HW1.out.bel).mono ?_); rintro e' w2 ⟨rfl, hb2⟩; have HW2 := Lib.hid (HW1.out.go hb2); clear hb2; dsimp only)
            | (go_at_call 72; (try rw [← HLE.out]); (with_reducible refine (ioWr_any b _ _ _ HW2.out.is (by have := HL.out; have := HLNZ.out; omega)).mono ?_); rw [HLNZ.out]; rintro e' w3 ⟨rfl, hi3, hb3, _⟩; have HW3 := Lib.hid (HW2.out.write hi3 hb3); clear hi3 hb3; dsimp only))
          go_roundg (n - (i + 1))
          case measure => omega
          case rel => exact ⟨i + 1, N + LNZ, by go_num, by omega, rfl, by go_num, rfl, by omega, Lib.hid (by rw [HTK.out]; unfold addT; rw [HLNE.out, if_pos rfl, HHC.out]; unfold notesE; rw [if_pos rfl, List.append_nil, next_len, ← HL.out, HLNZ.out]), Lib.hid (by rw [HTK.out]; unfold addT; rw [HLNE.out, if_pos rfl, HHC.out]; unfold notesE; rw [if_pos rfl, List.append_nil]; exact HW3.out)⟩
      | some cs =>
        obtain ⟨hcn, hcl, hcc⟩ := HCK.out cs hco
        obtain ⟨cv, hv1, hv2, hv3, _⟩ := HCR.out.2 cs hco
        have hhb : Maps.has DC (.string k.data.toList) = true := hv1
        obtain ⟨CN, hCN⟩ : ∃ m, cs.length = m := ⟨_, rfl⟩
        have hCN0 : 0 < CN := by rw [← hCN]; exact List.length_pos_iff.2 hcn
        rw [hCN] at hv3 hcl
        obtain ⟨ca, ccap, rfl⟩ := slq_any hv3
        obtain ⟨cg, rfl⟩ := slq_pos hv3 hCN0
        have HAT := Lib.hid hv2
        have HCS := Lib.hid hv3
        have HCL := Lib.hid hCN
        have HCX := Lib.hid hcc
        have HCNE := Lib.hid hcn
        have HHC : Hid ((p.cf k).getD [] = cs) := Lib.hid (by rw [hco]; rfl)
        have HCSW : Hid (∀ y, Below b w y → y.ownsRow B 9 1 (.slice (some ⟨cg, 0, none⟩) CN ccap) CN (cs.map Value.string)) := Lib.hid (fun y hy => by
          obtain ⟨cv', _, g2, g3, _⟩ := ((HG.out y hy).cr k).2 cs hco
          rw [hv2] at g2
          injection g2 with g2
          subst g2
          rw [hCN] at g3
          exact g3)
        obtain ⟨c0, hc0⟩ : ∃ x, cs[0]? = some x := ⟨_, List.getElem?_eq_getElem (by omega)⟩
        have y0 : wr.cell? ⟨cg, 0, none⟩ = some (.string c0) := by
          rw [hv3.cellAt 0 (by omega)]
          simp [hc0]
        have hne0 : c0.toList.isEmpty = false := by
          have h9 := (hcc c0 (List.mem_of_getElem? hc0)).1
          rw [ByteArray.toList_eq]
          cases h8 : c0.data.toList with
          | nil => exact absurd (by rw [Lib.size_eq, h8]; rfl) h9
          | cons a l => rfl
        have hcz : (0 : Int) < (CN : Int) := by omega
        clear hco hv1 hv2 hv3 hCN hcn hcc hc0
        go_wp2_with (first
          | (at_lookup; refine look_ss _ rfl _ _ rfl mb _ p.D rfl HMP.out k rfl hkm2 ?_; intro c hc9; have hc' := rawOf_of hc9; rw [HV.out] at hc'; subst hc'; clear hc9)
          | (at_lookup; refine wpList_lookup_own_ok _ rfl _ _ 63 rfl 9 32 lawS Tryz.underlying63 rawR (zeroRow _) (.held (.slice none 0 0)) [] rfl mc _ DC rfl HCP.out _ _ rfl (WideMaps.keyOf_string_mk Tryz.underlying9 hkm2) ?_; intro v0 ps0 hv0; rw [hhb]; obtain rfl : v0 = .slice (some ⟨cg, 0, none⟩) CN ccap := held_eq hv0 HAT.out; clear hv0))
        refine wp_loop_rounds 2 ?_
        rw [rounds_succ]
        by_cases hN0 : N = 0
        · have HN0 := Lib.hid hN0
          subst hN0
          go_wp2
          obtain ⟨A0, hA0⟩ : ∃ A, allE S e true p (p.ks.take i) = A := ⟨_, rfl⟩
          have HA0 := Lib.hid hA0
          have HLA : Hid (0 = A0.length) := Lib.hid (by rw [← hA0]; exact HL.out)
          have HWA : Hid (WST b w wr A0) := Lib.hid (by rw [← hA0]; exact HZ.out)
          clear hA0
          go_loopg [79, 8, 9] CN (fun gh iv nv ev wx => ∃ j M : Nat, iv = .int .i64 (j : Int) ∧ j ≤ CN ∧ gh = CN - j ∧ nv = .int .i64 (M : Int) ∧ ev = .nilIface ∧ M ≤ 200000000 * i + 1 + 10003 * j ∧ Hid (M = (A0 ++ comsE (cs.take j)).length) ∧ Hid (WST b w wx (A0 ++ comsE (cs.take j))))
          case atStart => exact ⟨0, 0, rfl, Nat.zero_le _, rfl, by first | rfl | go_num, rfl, by omega, Lib.hid (by simp [comsE]; exact HLA.out), Lib.hid (by simpa [comsE] using HWA.out)⟩
          case round =>
            obtain ⟨j, M, rfl, hjn, rfl, rfl, rfl, hMb, HML, HMZ⟩ := hrel
            by_cases hjl : j < CN
            · have hjz : (j : Int) < (CN : Int) := by omega
              obtain ⟨cj, hcj⟩ : ∃ x, cs[j]? = some x := ⟨_, List.getElem?_eq_getElem (by have := HCL.out; omega)⟩
              have q0 : wr.cell? ⟨cg, j, none⟩ = some (.string cj) := by
                rw [(HCSW.out wr HMZ.out.bel).cellAt j (by omega)]
                simp [hcj]
              have hcs := (HCX.out cj (List.mem_of_getElem? hcj)).2
              have HCT := Lib.hid (comsE_take cs j cj hcj)
              have hce := comE_size cj
              obtain ⟨CE, hCE⟩ : ∃ c, comE cj = c := ⟨_, rfl⟩
              have HCE : Hid (CE = (⟨#[35, 32]⟩ : ByteArray) ++ cj ++ ⟨#[10]⟩) := Lib.hid (by rw [← hCE]; rfl)
              have HCEQ := Lib.hid hCE
              rw [hCE] at hce
              obtain ⟨CZ, hCZ⟩ : ∃ z, CE.size = z := ⟨_, rfl⟩
              have HCZ := Lib.hid hCZ
              rw [hCZ] at hce
              clear hcj hCE hCZ
              go_wp2_with (first
                | (go_at_call 72; (try rw [← HCE.out]); (with_reducible refine (ioWr_any b _ _ _ HMZ.out.is (by have := HML.out; have := HCZ.out; omega)).mono ?_); rw [HCZ.out]; rintro e' w7 ⟨rfl, hi7, hb7, _⟩; have HW7 := Lib.hid (HMZ.out.write hi7 hb7); clear hi7 hb7; dsimp only))
              go_roundg (CN - (j + 1))
              case measure => omega
              case rel => exact ⟨j + 1, M + CZ, by go_num, by omega, rfl, by go_num, rfl, by omega, Lib.hid (by rw [HCT.out, HCEQ.out, ← List.append_assoc, next_len, ← HML.out, HCZ.out]), Lib.hid (by rw [HCT.out, HCEQ.out, ← List.append_assoc]; exact HW7.out)⟩
            · have hjz : ¬ (j : Int) < (CN : Int) := by omega
              obtain rfl : j = CN := by omega
              have ecs : cs.take j = cs := List.take_of_length_le (Nat.le_of_eq HCL.out)
              rw [ecs] at HML HMZ
              have HNT : Hid (allE S e true p (p.ks.take i) ++ notesE (decide ((allE S e true p (p.ks.take i)).length = 0)) cs = A0 ++ comsE cs) := Lib.hid (by
                rw [← HA0.out]
                unfold notesE
                rw [if_neg HCNE.out, ← HL.out]
                simp [comsE])
              have hcpos : 0 < j := by omega
              obtain ⟨s2, s3, s5, s6, _⟩ := seven_cells (HG.out wr HMZ.out.bel).blk
              rcases hc with ⟨rfl, rfl⟩ | ⟨hs0, rfl⟩
              rotate_left
              have hse : S.toList.isEmpty = false := by
                rw [ByteArray.toList_eq]
                cases h9 : S.data.toList with
                | nil => exact absurd (by rw [Lib.size_eq, h9]; rfl) hs0
                | cons a l => rfl
              all_goals
                go_wp2_with (first
                  | fail
                  | fail
                  | (go_at_call 73; (with_reducible refine (HE1.out _ HMZ.out.bel).mono ?_); rintro e' w1 ⟨rfl, hb1⟩; have HW1 := Lib.hid (HMZ.out.go hb1); clear hb1; dsimp only)
                  | (go_at_call 73; (with_reducible refine (HE2.out _ HW1.out.bel).mono ?_); rintro e' w2 ⟨rfl, hb2⟩; have HW2 := Lib.hid (HW1.out.go hb2); clear hb2; dsimp only)
                  | (go_at_call 72; (try rw [← HLE.out]); (with_reducible refine (ioWr_any b _ _ _ HW2.out.is (by have := HML.out; have := HLNZ.out; omega)).mono ?_); rw [HLNZ.out]; rintro e' w3 ⟨rfl, hi3, hb3, _⟩; have HW3 := Lib.hid (HW2.out.write hi3 hb3); clear hi3 hb3; dsimp only))
                go_roundg (n - (i + 1))
                case measure => omega
                case rel => exact ⟨i + 1, M + LNZ, by go_num, by omega, rfl, by go_num, rfl, by omega, Lib.hid (by rw [HTK.out]; unfold addT; rw [HLNE.out, if_pos rfl, HHC.out, HNT.out, next_len, ← HML.out, HLNZ.out]), Lib.hid (by rw [HTK.out]; unfold addT; rw [HLNE.out, if_pos rfl, HHC.out, HNT.out]; exact HW3.out)⟩
        · have hNz : (0 : Int) < (N : Int) := by omega
          have HN0 := Lib.hid hN0
          clear hN0
          go_wp2_with (first
            | (go_at_call 72; (with_reducible refine (ioWr_any b _ _ _ HZ.out.is (by have := HL.out; have h10 : (⟨#[10]⟩ : ByteArray).size = 1 := rfl; omega)).mono ?_); rintro e' w5 ⟨rfl, hi5, hb5, _⟩; have HW5 := Lib.hid (HZ.out.write hi5 hb5); clear hi5 hb5; dsimp only))
          obtain ⟨A0, hA0⟩ : ∃ A, allE S e true p (p.ks.take i) ++ (⟨#[10]⟩ : ByteArray).data.toList = A := ⟨_, rfl⟩
          have HA0 := Lib.hid hA0
          have HLA : Hid (N + 1 = A0.length) := Lib.hid (by rw [← hA0, next_len]; rw [← HL.out]; rfl)
          have HWA : Hid (WST b w w5 A0) := Lib.hid (by rw [← hA0]; exact HW5.out)
          clear hA0
          go_loopg [79, 8, 9] CN (fun gh iv nv ev wx => ∃ j M : Nat, iv = .int .i64 (j : Int) ∧ j ≤ CN ∧ gh = CN - j ∧ nv = .int .i64 (M : Int) ∧ ev = .nilIface ∧ M ≤ 200000000 * i + 1 + 10003 * j ∧ Hid (M = (A0 ++ comsE (cs.take j)).length) ∧ Hid (WST b w wx (A0 ++ comsE (cs.take j))))
          case atStart => exact ⟨0, (N + 1), rfl, Nat.zero_le _, rfl, by first | rfl | go_num, rfl, by omega, Lib.hid (by simp [comsE]; exact HLA.out), Lib.hid (by simpa [comsE] using HWA.out)⟩
          case round =>
            obtain ⟨j, M, rfl, hjn, rfl, rfl, rfl, hMb, HML, HMZ⟩ := hrel
            by_cases hjl : j < CN
            · have hjz : (j : Int) < (CN : Int) := by omega
              obtain ⟨cj, hcj⟩ : ∃ x, cs[j]? = some x := ⟨_, List.getElem?_eq_getElem (by have := HCL.out; omega)⟩
              have q0 : wr.cell? ⟨cg, j, none⟩ = some (.string cj) := by
                rw [(HCSW.out wr HMZ.out.bel).cellAt j (by omega)]
                simp [hcj]
              have hcs := (HCX.out cj (List.mem_of_getElem? hcj)).2
              have HCT := Lib.hid (comsE_take cs j cj hcj)
              have hce := comE_size cj
              obtain ⟨CE, hCE⟩ : ∃ c, comE cj = c := ⟨_, rfl⟩
              have HCE : Hid (CE = (⟨#[35, 32]⟩ : ByteArray) ++ cj ++ ⟨#[10]⟩) := Lib.hid (by rw [← hCE]; rfl)
              have HCEQ := Lib.hid hCE
              rw [hCE] at hce
              obtain ⟨CZ, hCZ⟩ : ∃ z, CE.size = z := ⟨_, rfl⟩
              have HCZ := Lib.hid hCZ
              rw [hCZ] at hce
              clear hcj hCE hCZ
              go_wp2_with (first
                | (go_at_call 72; (try rw [← HCE.out]); (with_reducible refine (ioWr_any b _ _ _ HMZ.out.is (by have := HML.out; have := HCZ.out; omega)).mono ?_); rw [HCZ.out]; rintro e' w7 ⟨rfl, hi7, hb7, _⟩; have HW7 := Lib.hid (HMZ.out.write hi7 hb7); clear hi7 hb7; dsimp only))
              go_roundg (CN - (j + 1))
              case measure => omega
              case rel => exact ⟨j + 1, M + CZ, by go_num, by omega, rfl, by go_num, rfl, by omega, Lib.hid (by rw [HCT.out, HCEQ.out, ← List.append_assoc, next_len, ← HML.out, HCZ.out]), Lib.hid (by rw [HCT.out, HCEQ.out, ← List.append_assoc]; exact HW7.out)⟩
            · have hjz : ¬ (j : Int) < (CN : Int) := by omega
              obtain rfl : j = CN := by omega
              have ecs : cs.take j = cs := List.take_of_length_le (Nat.le_of_eq HCL.out)
              rw [ecs] at HML HMZ
              have HNT : Hid (allE S e true p (p.ks.take i) ++ notesE (decide ((allE S e true p (p.ks.take i)).length = 0)) cs = A0 ++ comsE cs) := Lib.hid (by
                rw [← HA0.out]
                unfold notesE
                rw [if_neg HCNE.out, ← HL.out]
                rw [decide_eq_false HN0.out]; simp [comsE])
              have hcpos : 0 < j := by omega
              obtain ⟨s2, s3, s5, s6, _⟩ := seven_cells (HG.out wr HMZ.out.bel).blk
              rcases hc with ⟨rfl, rfl⟩ | ⟨hs0, rfl⟩
              rotate_left
              have hse : S.toList.isEmpty = false := by
                rw [ByteArray.toList_eq]
                cases h9 : S.data.toList with
                | nil => exact absurd (by rw [Lib.size_eq, h9]; rfl) hs0
                | cons a l => rfl
              all_goals
                go_wp2_with (first
                  | fail
                  | fail
                  | (go_at_call 73; (with_reducible refine (HE1.out _ HMZ.out.bel).mono ?_); rintro e' w1 ⟨rfl, hb1⟩; have HW1 := Lib.hid (HMZ.out.go hb1); clear hb1; dsimp only)
                  | (go_at_call 73; (with_reducible refine (HE2.out _ HW1.out.bel).mono ?_); rintro e' w2 ⟨rfl, hb2⟩; have HW2 := Lib.hid (HW1.out.go hb2); clear hb2; dsimp only)
                  | (go_at_call 72; (try rw [← HLE.out]); (with_reducible refine (ioWr_any b _ _ _ HW2.out.is (by have := HML.out; have := HLNZ.out; omega)).mono ?_); rw [HLNZ.out]; rintro e' w3 ⟨rfl, hi3, hb3, _⟩; have HW3 := Lib.hid (HW2.out.write hi3 hb3); clear hi3 hb3; dsimp only))
                go_roundg (n - (i + 1))
                case measure => omega
                case rel => exact ⟨i + 1, M + LNZ, by go_num, by omega, rfl, by go_num, rfl, by omega, Lib.hid (by rw [HTK.out]; unfold addT; rw [HLNE.out, if_pos rfl, HHC.out, HNT.out, next_len, ← HML.out, HLNZ.out]), Lib.hid (by rw [HTK.out]; unfold addT; rw [HLNE.out, if_pos rfl, HHC.out, HNT.out]; exact HW3.out)⟩
    · have hiz : ¬ (i : Int) < (n : Int) := by omega
      obtain rfl : i = n := by omega
      go_wp2_with fail
      refine bodyPost_ret (v := .tuple #[.int .i64 (N : Int), .nilIface]) (by simp [results, Tryz.results46, go_sem]; try rfl) (by rfl) ?_
      have e1 : p.ks.take i = p.ks := List.take_of_length_le (Nat.le_of_eq HN.out)
      rw [e1] at HL HZ
      exact ⟨N, rfl, HL.out, HZ.out⟩
end Go.Proofs.YtgmhigjhooihdaaGreatDoor
