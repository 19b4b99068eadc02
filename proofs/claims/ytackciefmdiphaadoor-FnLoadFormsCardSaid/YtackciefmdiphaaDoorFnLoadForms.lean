/- The law FnLoadForms: a key and its value are parted alike by eight separators; a value goes on behind a backslash. -/
import Derived.Test.YtackciefmdiphaaDoorLoads
import Derived.Test.YtackciefmdiphaaDoorQSim0
set_option linter.unusedVariables false
namespace Go.Proofs.YtackciefmdiphaaDoor
open Go.RowKit Plain Go.Maps

theorem u8_bd {x : Int} (h : (Lit.int .u8 x).wf = true) : 0 ≤ x ∧ x ≤ 255 := by simpa [Lit.wf, IntKind.min, IntKind.max, IntKind.signed, IntKind.bits] using h
def txF (k sep a b : ByteArray) : ByteArray := ⟨#[32]⟩ ++ k ++ sep ++ a ++ ⟨#[92, 10, 32, 9]⟩ ++ b ++ ⟨#[10, 10]⟩
theorem txF_list (k sep a b : ByteArray) : (txF k sep a b).data.toList = 32 :: (k.data.toList ++ (sep.data.toList ++ (a.data.toList ++ (92 :: 10 :: ([32, 9] ++ (b.data.toList ++ [10, 10])))))) := by
  unfold txF
  simp [ByteArray.data_append]
theorem txF_size (k sep a b : ByteArray) : (txF k sep a b).size = k.size + sep.size + a.size + b.size + 7 := by
  unfold txF
  simp only [ByteArray.size_append]
  have e1 : (⟨#[32]⟩ : ByteArray).size = 1 := rfl
  have e2 : (⟨#[92, 10, 32, 9]⟩ : ByteArray).size = 4 := rfl
  have e3 : (⟨#[10, 10]⟩ : ByteArray).size = 2 := rfl
  omega
theorem ba_eta (k : ByteArray) : (⟨k.data.toList.toArray⟩ : ByteArray) = k := by
  cases k
  simp
theorem ba_app (a b : ByteArray) : (⟨(a.data.toList ++ b.data.toList).toArray⟩ : ByteArray) = a ++ b := by
  apply ByteArray.ext
  simp [ByteArray.data_append]
theorem ws_of (l : List UInt8) (h : l.all (fun c => decide (c.toNat < 128) && wsR c.toNat) = true) : ∀ c ∈ l, c.toNat < 128 ∧ wsR c.toNat = true := by
  intro c hc
  have := List.all_eq_true.1 h c hc
  simpa using this
theorem txF_par (k sep a b : ByteArray) (b1 cs b2 : List UInt8) (hsep : sep.data.toList = b1 ++ (cs ++ b2)) (y : UInt8) (r : List UInt8) (hy : b1 ++ (cs ++ b2) = y :: r) (hy1 : y.toNat < 128) (hy2 : y.toNat ≠ 92) (hy3 : endK y.toNat = true) (h1 : b1.all (fun c => decide (c.toNat < 128) && wsR c.toNat) = true) (h2 : b2.all (fun c => decide (c.toNat < 128) && wsR c.toNat) = true) (hc : cs = [61] ∨ cs = [58] ∨ (cs = [] ∧ b2 = [])) (hk : simB k = true) (ha : simB a = true) (hb : simB b = true) :
    parL (lexL (unbom (txF k sep a b))) [] pst0 = some (pOne k (a ++ b)) := by
  have hk' := simB_bare hk
  have ha' := simB_bare ha
  have hb' := simB_bare hb
  have := form_par (txF k sep a b) k.data.toList a.data.toList b.data.toList b1 cs b2 y (r ++ (a.data.toList ++ (92 :: 10 :: ([32, 9] ++ (b.data.toList ++ [10, 10]))))) (by rw [txF_list, hsep]; simp) (by
    have e : (b1 ++ (cs ++ b2)) ++ (a.data.toList ++ (92 :: 10 :: ([32, 9] ++ (b.data.toList ++ [10, 10])))) = (y :: r) ++ (a.data.toList ++ (92 :: 10 :: ([32, 9] ++ (b.data.toList ++ [10, 10])))) := by rw [hy]
    simpa [List.append_assoc] using e) hy1 hy2 hy3 hk'.1 ha'.1 hb'.1 hk'.2 ha'.2 hb'.2 (ws_of b1 h1) (ws_of b2 h2) hc
  rw [ba_eta, ba_app] at this
  exact this
set_option maxHeartbeats 8000000 in
set_option maxRecDepth 100000 in
theorem fnLoadForms_walk (k a b : ByteArray) (ci : Int) (w : World) (hk0 : k.size ≤ 140737488351232) (ha0 : a.size ≤ 140737488351232) (hb0 : b.size ≤ 140737488351232) (h3 : (Lit.int .u8 ci).wf = true) (hT : Tabs w) :
    Calls Tryd.prog 3 #[.string k, .string a, .string b, .int .u8 ci] w fun e w' => e = .returned (.bool true) ∧ Below w.heap.size w w' := by
  obtain ⟨c0, c1⟩ := u8_bd h3
  obtain ⟨c, rfl⟩ : ∃ c : Nat, ci = (c : Int) := ⟨ci.toNat, by omega⟩
  clear h3 c0 c1
  by_cases hk : 2147483647 < k.size
  · have hzk : (2147483647 : Int) < (k.size : Int) := by omega
    go_enter Tryd.func3, Tryd.ntmps3
    go_wp2
    go_ret
    exact ⟨rfl, Below.refl _ _⟩
  have hzk : ¬ (2147483647 : Int) < (k.size : Int) := by omega
  by_cases ha : 2147483647 < a.size
  · have hza : (2147483647 : Int) < (a.size : Int) := by omega
    go_enter Tryd.func3, Tryd.ntmps3
    go_wp2
    go_ret
    exact ⟨rfl, Below.refl _ _⟩
  have hza : ¬ (2147483647 : Int) < (a.size : Int) := by omega
  by_cases hb : 2147483647 < b.size
  · have hzb : (2147483647 : Int) < (b.size : Int) := by omega
    go_enter Tryd.func3, Tryd.ntmps3
    go_wp2
    go_ret
    exact ⟨rfl, Below.refl _ _⟩
  have hzb : ¬ (2147483647 : Int) < (b.size : Int) := by omega
  have HSk := Lib.hid (fun w => simple_any k w (by omega))
  have HSa := Lib.hid (fun w => simple_any a w (by omega))
  have HSb := Lib.hid (fun w => simple_any b w (by omega))
  have HLD := Lib.hid (loads_any w hT)
  obtain ⟨x, hx⟩ : ∃ x, simB k = x := ⟨_, rfl⟩
  obtain ⟨y, hy⟩ : ∃ x, simB a = x := ⟨_, rfl⟩
  obtain ⟨z, hz⟩ : ∃ x, simB b = x := ⟨_, rfl⟩
  have HX := Lib.hid hx
  have HY := Lib.hid hy
  have HZ := Lib.hid hz
  rw [hx] at HSk
  rw [hy] at HSa
  rw [hz] at HSb
  clear hx hy hz
  by_cases hgo : (x = true ∧ y = true ∧ z = true) ∧ k.size + a.size + b.size ≤ 300
  · obtain ⟨⟨rfl, rfl, rfl⟩, h300⟩ := hgo
    have h300z : ¬ (300 : Int) < (k.size : Int) + (a.size : Int) + (b.size : Int) := by omega
    have HTB := Lib.hid hT
    have HLP : Hid (∀ (sep : ByteArray) (y : World), sep.size ≤ 10 → parL (lexL (unbom (txF k sep a b))) [] pst0 = some (pOne k (a ++ b)) → Below w.heap.size w y → Calls Tryd.prog 6 #[.string (⟨#[32]⟩ ++ k ++ sep ++ a ++ ⟨#[92, 10, 32, 9]⟩ ++ b ++ ⟨#[10, 10]⟩), .int .i64 1, .bool true] y fun e w' => ∃ g cp, e = .returned (.tuple #[.slice (some ⟨g, 0, none⟩) 1 cp, .bool true]) ∧ w'.cell? ⟨g, 0, none⟩ = some (.string k) ∧ w'.cell? ⟨g, 1, none⟩ = some (.string (a ++ b)) ∧ Below y.heap.size y w') := Lib.hid (fun sep y hsz hp hy => (loadProps_plain (txF k sep a b) y (by rw [txF_size]; omega) (HTB.out.below hy) (some (pOne k (a ++ b))) hp).mono (by
      rintro e w' ⟨hb1, v, rfl, us, hu1, hu2, _⟩
      have hl : (pOne k (a ++ b)).ks.map (dataOf (pOne k (a ++ b)) (rawOf (pOne k (a ++ b)).D)) = [dataOf (pOne k (a ++ b)) (rawOf (pOne k (a ++ b)).D) k] := rfl
      rw [hl] at hu1 hu2
      obtain ⟨a2, cp2, rfl⟩ := slq_any hu2
      obtain ⟨g2, rfl⟩ := slq_pos hu2 (by simp)
      obtain ⟨u0, hu0⟩ : ∃ u, us[0]? = some u := ⟨_, List.getElem?_eq_getElem (by rw [hu1]; simp)⟩
      obtain ⟨z0, z1, _, _⟩ := prow_cells hu2 (i := 0) (by simp) rfl hu0
      rw [Nat.zero_mul, Nat.zero_add] at z1
      rw [Nat.zero_mul] at z0
      have hr : (dataOf (pOne k (a ++ b)) (rawOf (pOne k (a ++ b)).D) k).raw = a ++ b := pOne_raw k (a ++ b)
      rw [hr] at z1
      exact ⟨g2, cp2, rfl, z0, z1, hb1⟩))
    clear hT HTB
    obtain ⟨r, hr⟩ : ∃ r, c % 8 = r := ⟨_, rfl⟩
    have hr8 : r < 8 := by rw [← hr]; exact Nat.mod_lt _ (by decide)
    have hrem : Int.tmod (c : Int) 8 = (r : Int) := by rw [← hr]; rfl
    have hcase : r = 0 ∨ r = 1 ∨ r = 2 ∨ r = 3 ∨ r = 4 ∨ r = 5 ∨ r = 6 ∨ r = 7 := by omega
    clear hr hr8 ha hb hk ha0 hb0 hk0
    rcases hcase with rfl | rfl | rfl | rfl | rfl | rfl | rfl | rfl
    · have hrem0 : Int.tmod (c : Int) 8 = 0 := hrem
      clear hrem
      have HP := Lib.hid (txF_par k ⟨#[32]⟩ a b [32] [] [] rfl 32 [] rfl (by decide) (by decide) (by decide) (by decide) (by decide) (.inr (.inr ⟨rfl, rfl⟩)) HX.out HY.out HZ.out)
      go_enter Tryd.func3, Tryd.ntmps3
      go_wp2_with (first
        | (go_at_call 4; (with_reducible refine HLD.out.mono ?_); rintro e w1 ⟨rfl, hb1⟩; have HB1 := Lib.hid hb1; clear hb1; dsimp only)
        | (go_at_call 5; first | ((with_reducible refine (HSk.out _).mono ?_); rintro e w2 ⟨rfl, rfl⟩; dsimp only) | ((with_reducible refine (HSa.out _).mono ?_); rintro e w2 ⟨rfl, rfl⟩; dsimp only) | ((with_reducible refine (HSb.out _).mono ?_); rintro e w2 ⟨rfl, rfl⟩; dsimp only))
        | (go_at_call 6; (with_reducible refine (HLP.out ⟨#[32]⟩ _ (by decide) HP.out (HB1.out.alloc HB1.out.size _)).mono ?_); rintro e w5 ⟨g, cp, rfl, z0, z1, hb5⟩; have HB5 := Lib.hid (bthen (HB1.out.alloc HB1.out.size _) hb5); clear hb5; dsimp only))
      go_ret
      exact ⟨rfl, HB5.out⟩
    · have hrem1 : Int.tmod (c : Int) 8 = 1 := hrem
      clear hrem
      have HP := Lib.hid (txF_par k ⟨#[61]⟩ a b [] [61] [] rfl 61 [] rfl (by decide) (by decide) (by decide) (by decide) (by decide) (.inl rfl) HX.out HY.out HZ.out)
      go_enter Tryd.func3, Tryd.ntmps3
      go_wp2_with (first
        | (go_at_call 4; (with_reducible refine HLD.out.mono ?_); rintro e w1 ⟨rfl, hb1⟩; have HB1 := Lib.hid hb1; clear hb1; dsimp only)
        | (go_at_call 5; first | ((with_reducible refine (HSk.out _).mono ?_); rintro e w2 ⟨rfl, rfl⟩; dsimp only) | ((with_reducible refine (HSa.out _).mono ?_); rintro e w2 ⟨rfl, rfl⟩; dsimp only) | ((with_reducible refine (HSb.out _).mono ?_); rintro e w2 ⟨rfl, rfl⟩; dsimp only))
        | (go_at_call 6; (with_reducible refine (HLP.out ⟨#[61]⟩ _ (by decide) HP.out (HB1.out.alloc HB1.out.size _)).mono ?_); rintro e w5 ⟨g, cp, rfl, z0, z1, hb5⟩; have HB5 := Lib.hid (bthen (HB1.out.alloc HB1.out.size _) hb5); clear hb5; dsimp only))
      go_ret
      exact ⟨rfl, HB5.out⟩
    · have hrem2 : Int.tmod (c : Int) 8 = 2 := hrem
      clear hrem
      have HP := Lib.hid (txF_par k ⟨#[58]⟩ a b [] [58] [] rfl 58 [] rfl (by decide) (by decide) (by decide) (by decide) (by decide) (.inr (.inl rfl)) HX.out HY.out HZ.out)
      go_enter Tryd.func3, Tryd.ntmps3
      go_wp2_with (first
        | (go_at_call 4; (with_reducible refine HLD.out.mono ?_); rintro e w1 ⟨rfl, hb1⟩; have HB1 := Lib.hid hb1; clear hb1; dsimp only)
        | (go_at_call 5; first | ((with_reducible refine (HSk.out _).mono ?_); rintro e w2 ⟨rfl, rfl⟩; dsimp only) | ((with_reducible refine (HSa.out _).mono ?_); rintro e w2 ⟨rfl, rfl⟩; dsimp only) | ((with_reducible refine (HSb.out _).mono ?_); rintro e w2 ⟨rfl, rfl⟩; dsimp only))
        | (go_at_call 6; (with_reducible refine (HLP.out ⟨#[58]⟩ _ (by decide) HP.out (HB1.out.alloc HB1.out.size _)).mono ?_); rintro e w5 ⟨g, cp, rfl, z0, z1, hb5⟩; have HB5 := Lib.hid (bthen (HB1.out.alloc HB1.out.size _) hb5); clear hb5; dsimp only))
      go_ret
      exact ⟨rfl, HB5.out⟩
    · have hrem3 : Int.tmod (c : Int) 8 = 3 := hrem
      clear hrem
      have HP := Lib.hid (txF_par k ⟨#[32, 61, 32]⟩ a b [32] [61] [32] rfl 32 [61, 32] rfl (by decide) (by decide) (by decide) (by decide) (by decide) (.inl rfl) HX.out HY.out HZ.out)
      go_enter Tryd.func3, Tryd.ntmps3
      go_wp2_with (first
        | (go_at_call 4; (with_reducible refine HLD.out.mono ?_); rintro e w1 ⟨rfl, hb1⟩; have HB1 := Lib.hid hb1; clear hb1; dsimp only)
        | (go_at_call 5; first | ((with_reducible refine (HSk.out _).mono ?_); rintro e w2 ⟨rfl, rfl⟩; dsimp only) | ((with_reducible refine (HSa.out _).mono ?_); rintro e w2 ⟨rfl, rfl⟩; dsimp only) | ((with_reducible refine (HSb.out _).mono ?_); rintro e w2 ⟨rfl, rfl⟩; dsimp only))
        | (go_at_call 6; (with_reducible refine (HLP.out ⟨#[32, 61, 32]⟩ _ (by decide) HP.out (HB1.out.alloc HB1.out.size _)).mono ?_); rintro e w5 ⟨g, cp, rfl, z0, z1, hb5⟩; have HB5 := Lib.hid (bthen (HB1.out.alloc HB1.out.size _) hb5); clear hb5; dsimp only))
      go_ret
      exact ⟨rfl, HB5.out⟩
    · have hrem4 : Int.tmod (c : Int) 8 = 4 := hrem
      clear hrem
      have HP := Lib.hid (txF_par k ⟨#[32, 58, 32]⟩ a b [32] [58] [32] rfl 32 [58, 32] rfl (by decide) (by decide) (by decide) (by decide) (by decide) (.inr (.inl rfl)) HX.out HY.out HZ.out)
      go_enter Tryd.func3, Tryd.ntmps3
      go_wp2_with (first
        | (go_at_call 4; (with_reducible refine HLD.out.mono ?_); rintro e w1 ⟨rfl, hb1⟩; have HB1 := Lib.hid hb1; clear hb1; dsimp only)
        | (go_at_call 5; first | ((with_reducible refine (HSk.out _).mono ?_); rintro e w2 ⟨rfl, rfl⟩; dsimp only) | ((with_reducible refine (HSa.out _).mono ?_); rintro e w2 ⟨rfl, rfl⟩; dsimp only) | ((with_reducible refine (HSb.out _).mono ?_); rintro e w2 ⟨rfl, rfl⟩; dsimp only))
        | (go_at_call 6; (with_reducible refine (HLP.out ⟨#[32, 58, 32]⟩ _ (by decide) HP.out (HB1.out.alloc HB1.out.size _)).mono ?_); rintro e w5 ⟨g, cp, rfl, z0, z1, hb5⟩; have HB5 := Lib.hid (bthen (HB1.out.alloc HB1.out.size _) hb5); clear hb5; dsimp only))
      go_ret
      exact ⟨rfl, HB5.out⟩
    · have hrem5 : Int.tmod (c : Int) 8 = 5 := hrem
      clear hrem
      have HP := Lib.hid (txF_par k ⟨#[9, 61]⟩ a b [9] [61] [] rfl 9 [61] rfl (by decide) (by decide) (by decide) (by decide) (by decide) (.inl rfl) HX.out HY.out HZ.out)
      go_enter Tryd.func3, Tryd.ntmps3
      go_wp2_with (first
        | (go_at_call 4; (with_reducible refine HLD.out.mono ?_); rintro e w1 ⟨rfl, hb1⟩; have HB1 := Lib.hid hb1; clear hb1; dsimp only)
        | (go_at_call 5; first | ((with_reducible refine (HSk.out _).mono ?_); rintro e w2 ⟨rfl, rfl⟩; dsimp only) | ((with_reducible refine (HSa.out _).mono ?_); rintro e w2 ⟨rfl, rfl⟩; dsimp only) | ((with_reducible refine (HSb.out _).mono ?_); rintro e w2 ⟨rfl, rfl⟩; dsimp only))
        | (go_at_call 6; (with_reducible refine (HLP.out ⟨#[9, 61]⟩ _ (by decide) HP.out (HB1.out.alloc HB1.out.size _)).mono ?_); rintro e w5 ⟨g, cp, rfl, z0, z1, hb5⟩; have HB5 := Lib.hid (bthen (HB1.out.alloc HB1.out.size _) hb5); clear hb5; dsimp only))
      go_ret
      exact ⟨rfl, HB5.out⟩
    · have hrem6 : Int.tmod (c : Int) 8 = 6 := hrem
      clear hrem
      have HP := Lib.hid (txF_par k ⟨#[61, 32, 9]⟩ a b [] [61] [32, 9] rfl 61 [32, 9] rfl (by decide) (by decide) (by decide) (by decide) (by decide) (.inl rfl) HX.out HY.out HZ.out)
      go_enter Tryd.func3, Tryd.ntmps3
      go_wp2_with (first
        | (go_at_call 4; (with_reducible refine HLD.out.mono ?_); rintro e w1 ⟨rfl, hb1⟩; have HB1 := Lib.hid hb1; clear hb1; dsimp only)
        | (go_at_call 5; first | ((with_reducible refine (HSk.out _).mono ?_); rintro e w2 ⟨rfl, rfl⟩; dsimp only) | ((with_reducible refine (HSa.out _).mono ?_); rintro e w2 ⟨rfl, rfl⟩; dsimp only) | ((with_reducible refine (HSb.out _).mono ?_); rintro e w2 ⟨rfl, rfl⟩; dsimp only))
        | (go_at_call 6; (with_reducible refine (HLP.out ⟨#[61, 32, 9]⟩ _ (by decide) HP.out (HB1.out.alloc HB1.out.size _)).mono ?_); rintro e w5 ⟨g, cp, rfl, z0, z1, hb5⟩; have HB5 := Lib.hid (bthen (HB1.out.alloc HB1.out.size _) hb5); clear hb5; dsimp only))
      go_ret
      exact ⟨rfl, HB5.out⟩
    · have hrem7 : Int.tmod (c : Int) 8 = 7 := hrem
      clear hrem
      have HP := Lib.hid (txF_par k ⟨#[12]⟩ a b [12] [] [] rfl 12 [] rfl (by decide) (by decide) (by decide) (by decide) (by decide) (.inr (.inr ⟨rfl, rfl⟩)) HX.out HY.out HZ.out)
      go_enter Tryd.func3, Tryd.ntmps3
      go_wp2_with (first
        | (go_at_call 4; (with_reducible refine HLD.out.mono ?_); rintro e w1 ⟨rfl, hb1⟩; have HB1 := Lib.hid hb1; clear hb1; dsimp only)
        | (go_at_call 5; first | ((with_reducible refine (HSk.out _).mono ?_); rintro e w2 ⟨rfl, rfl⟩; dsimp only) | ((with_reducible refine (HSa.out _).mono ?_); rintro e w2 ⟨rfl, rfl⟩; dsimp only) | ((with_reducible refine (HSb.out _).mono ?_); rintro e w2 ⟨rfl, rfl⟩; dsimp only))
        | (go_at_call 6; (with_reducible refine (HLP.out ⟨#[12]⟩ _ (by decide) HP.out (HB1.out.alloc HB1.out.size _)).mono ?_); rintro e w5 ⟨g, cp, rfl, z0, z1, hb5⟩; have HB5 := Lib.hid (bthen (HB1.out.alloc HB1.out.size _) hb5); clear hb5; dsimp only))
      go_ret
      exact ⟨rfl, HB5.out⟩
  · cases x with
    | false =>
      clear hgo
      go_enter Tryd.func3, Tryd.ntmps3
      go_wp2_with (first
        | (go_at_call 4; (with_reducible refine HLD.out.mono ?_); rintro e w1 ⟨rfl, hb1⟩; have HB1 := Lib.hid hb1; clear hb1; dsimp only)
        | (go_at_call 5; first | ((with_reducible refine (HSk.out _).mono ?_); rintro e w2 ⟨rfl, rfl⟩; dsimp only) | ((with_reducible refine (HSa.out _).mono ?_); rintro e w2 ⟨rfl, rfl⟩; dsimp only) | ((with_reducible refine (HSb.out _).mono ?_); rintro e w2 ⟨rfl, rfl⟩; dsimp only)))
      go_ret
      exact ⟨rfl, HB1.out⟩
    | true =>
      cases y with
      | false =>
        clear hgo
        go_enter Tryd.func3, Tryd.ntmps3
        go_wp2_with (first
          | (go_at_call 4; (with_reducible refine HLD.out.mono ?_); rintro e w1 ⟨rfl, hb1⟩; have HB1 := Lib.hid hb1; clear hb1; dsimp only)
          | (go_at_call 5; first | ((with_reducible refine (HSk.out _).mono ?_); rintro e w2 ⟨rfl, rfl⟩; dsimp only) | ((with_reducible refine (HSa.out _).mono ?_); rintro e w2 ⟨rfl, rfl⟩; dsimp only) | ((with_reducible refine (HSb.out _).mono ?_); rintro e w2 ⟨rfl, rfl⟩; dsimp only)))
        go_ret
        exact ⟨rfl, HB1.out⟩
      | true =>
        cases z with
        | false =>
          clear hgo
          go_enter Tryd.func3, Tryd.ntmps3
          go_wp2_with (first
            | (go_at_call 4; (with_reducible refine HLD.out.mono ?_); rintro e w1 ⟨rfl, hb1⟩; have HB1 := Lib.hid hb1; clear hb1; dsimp only)
            | (go_at_call 5; first | ((with_reducible refine (HSk.out _).mono ?_); rintro e w2 ⟨rfl, rfl⟩; dsimp only) | ((with_reducible refine (HSa.out _).mono ?_); rintro e w2 ⟨rfl, rfl⟩; dsimp only) | ((with_reducible refine (HSb.out _).mono ?_); rintro e w2 ⟨rfl, rfl⟩; dsimp only)))
          go_ret
          exact ⟨rfl, HB1.out⟩
        | true =>
          have h300z : (300 : Int) < (k.size : Int) + (a.size : Int) + (b.size : Int) := by
            have : ¬ k.size + a.size + b.size ≤ 300 := fun h => hgo ⟨⟨rfl, rfl, rfl⟩, h⟩
            omega
          clear hgo
          go_enter Tryd.func3, Tryd.ntmps3
          go_wp2_with (first
            | (go_at_call 4; (with_reducible refine HLD.out.mono ?_); rintro e w1 ⟨rfl, hb1⟩; have HB1 := Lib.hid hb1; clear hb1; dsimp only)
            | (go_at_call 5; first | ((with_reducible refine (HSk.out _).mono ?_); rintro e w2 ⟨rfl, rfl⟩; dsimp only) | ((with_reducible refine (HSa.out _).mono ?_); rintro e w2 ⟨rfl, rfl⟩; dsimp only) | ((with_reducible refine (HSb.out _).mono ?_); rintro e w2 ⟨rfl, rfl⟩; dsimp only)))
          go_ret
          exact ⟨rfl, HB1.out⟩
end Go.Proofs.YtackciefmdiphaaDoor
