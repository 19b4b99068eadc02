/- The memory of a reading of a line (shellwords.Parse): five variables that a closure shares, two rows, a third row that nothing reads, the iterator. -/
import Derived.Test.YtcjfcjlendibpaaDoorShellLaw
import Derived.Test.YtcjfcjlendibpaaDoorFrm
import Derived.WalkKit
import Derived.WalkSmall
import Derived.Lib.Hide
import Derived.KernelRfl
import Derived.OneCell
import Derived.Lib.AppendStr
import Derived.Maps.AppendAt
import Derived.Lib.RuneCount
import Derived.Deep.CutBlock
import Derived.Test.YtcjfcjlendibpaaDoorShelf
import Derived.Deep.LoopGhost
set_option linter.unusedVariables false
namespace Go.Proofs.YtcjfcjlendibpaaDoor
open Go.RowKit Plain

theorem ret_int {k : IntKind} {a b : Int} (h : a = b) : Ending.returned (.int k a) = .returned (.int k b) := by rw [h]
theorem ret_bool {a b : Bool} (h : a = b) : Ending.returned (.bool a) = .returned (.bool b) := by rw [h]
theorem bthen {w w1 w2 : World} (h : Below w.heap.size w w1) (k : Below w1.heap.size w1 w2) : Below w.heap.size w w2 := h.trans (k.mono h.size)
theorem infoByte : (Tryd.prog.info? 5).map (fun i => (i.zero, i.size, i.bytes)) = some (some (.int .u8 0), 1, 1) := by kernel_rfl
theorem infoStr : (Tryd.prog.info? 9).map (fun i => (i.zero, i.size, i.bytes)) = some (some (.string ByteArray.empty), 1, 16) := by kernel_rfl

/-- append of a text's bytes, with the place where the new slice lies -/
theorem run_app_str {P : Program} (w : World) (base : Nat) (t u ty e : TypeId) (i : TypeInfo) (ht : P.underlying t = some (.slice e)) (hu : P.underlying u = some .string) (hi : P.info? e = some i) (hz : i.zero = some (.int .u8 0))
    (hsize : i.size = 1) (hby : i.bytes = 1) (v : Value) (n : Nat) (xs : List Value) (hown : w.ownsRow base e 1 v n xs) (s : ByteArray) (h48 : n + s.size ≤ 140737488355328) (hbase : base ≤ w.heap.size) :
    ∃ v' w', (Builtin.append_ #[t, u] ty #[v, .string s]).run P w = .ok v' w' ∧ w'.ownsRow base e 1 v' (n + s.size) (xs ++ Lib.strCells s) ∧ w.grownBy w' v.ownBlock ∧ (v'.ownBlock = v.ownBlock ∨ v'.ownBlock = some w.heap.size) := by
  obtain ⟨v', w', hr, h1, h2, h3⟩ := Lib.run_append_own_string (P := P) w base t u ty e i ht hu hi hz hsize hby v n xs hown s (by unfold maxLen; omega) h48 hbase
  refine ⟨v', w', hr, h1, h2, ?_⟩
  rcases hown.2 with ⟨rfl, rfl⟩ | ⟨g, cap, cur, rfl, hbg, hg, hnc, hcm, hcs, htake⟩
  · by_cases hm : s.size = 0
    · rw [h3.2 ⟨rfl, hm⟩]; exact .inl rfl
    · have h := run_append_nil_string (P := P) w t u ty e i (.int .u8 0) ht hu hi hz s (by omega) (by omega) (by rw [hby]; omega)
      rw [hr] at h
      cases h
      exact .inr rfl
  · by_cases hroom : n + s.size ≤ cap
    · have h := Lib.run_append_room_string (P := P) w t u ty e i ht hu hi hsize g n cap cur hg s hroom (by omega)
      rw [hr] at h
      cases h
      exact .inl rfl
    · have h := Lib.run_append_grow_string (P := P) w t u ty e i (.int .u8 0) ht hu hi hz ⟨g, 0, none⟩ n cap xs (by rw [hsize]; exact hown.1) (hown.cells (g := g) rfl) s (by omega) (by omega) (by rw [hby]; exact growslice_fits (by omega) (by omega))
      rw [hr] at h
      cases h
      exact .inr rfl
theorem wpList_app_str {P : Program} {w : World} {ops : Array Oper} {rest : List Oper} {o : Oper} {a : Act} {Q : Exit → Act → World → Prop} (hgd : o.guard = none) (sl x : Operand) (t u : TypeId)
    (ho : o.op = .call { callee := .builtin .append, args := #[sl, x], argTypes := #[t, u] })
    (base : Nat) (e : TypeId) (i : TypeInfo) (ht : P.underlying t = some (.slice e)) (hu : P.underlying u = some .string) (hi : P.info? e = some i) (hz : i.zero = some (.int .u8 0))
    (hsize : i.size = 1) (hby : i.bytes = 1)
    (v : Value) (n : Nat) (xs : List Value) (hs : a.eval sl = v) (hown : w.ownsRow base e 1 v n xs) (s : ByteArray) (hx : a.eval x = .string s)
    (h48 : n + s.size ≤ 140737488355328) (hbase : base ≤ w.heap.size)
    (h : ∀ v' w', w'.ownsRow base e 1 v' (n + s.size) (xs ++ Lib.strCells s) → w.grownBy w' v.ownBlock → (v'.ownBlock = v.ownBlock ∨ v'.ownBlock = some w.heap.size) → wpList P ops Q rest (a.put o.dst v') w') : wpList P ops Q (o :: rest) a w := by
  refine wpList_plain hgd fun K hK => ?_
  obtain ⟨v', w', hr, h2, h3, h4⟩ := run_app_str (P := P) w base t u o.type e i ht hu hi hz hsize hby v n xs hown s h48 hbase
  unfold Oper.wp execOp
  simp only [ho, resolve, invoke, builtin, Sem.run_bind, Sem.run_pure, Result.andThen_ok, List.map_toArray, List.map_cons, List.map_nil, hs, hx, hr]
  exact hK _ _ (h v' w' h2 h3 h4)

def strV (l : List UInt8) : Value := .string ⟨l.toArray⟩
/-- where the shared variables lie -/
structure Bl where
  B : Nat
  A : Nat
  V : Nat
  G : Nat
  T : Nat
  S : Nat
  I : Nat
  hTS : T ≠ S
  hA : B ≤ A
  hV : B ≤ V
  hG : B ≤ G
  hT : B ≤ T
  hS : B ≤ S
  hI : B ≤ I
def sl (g n c : Nat) : Value := .slice (some ⟨g, 0, none⟩) n c
/-- the memory: the words 'a' in the row 'ga', the word 'b' in the row 'gb'; 'bt': the row that nothing reads; the iterator stands at 'pos' -/
structure PM (L : Bl) (s : ByteArray) (m pos : Nat) (a : List (List UInt8)) (ga ca : Nat) (b : List UInt8) (gb cb : Nat) (g : Nat) (tq sub : Bool) (bt : Value) (w : World) : Prop where
  lA : w.heap[L.A]? = some (.cells #[.slice (some ⟨ga, 0, none⟩) a.length ca] 24 (0, 0))
  oA : w.ownsRow L.B 9 1 (.slice (some ⟨ga, 0, none⟩) a.length ca) a.length (a.map strV)
  lV : w.heap[L.V]? = some (.cells #[.slice (some ⟨gb, 0, none⟩) b.length cb] 56 (0, 0))
  oV : w.ownsRow L.B 5 1 (.slice (some ⟨gb, 0, none⟩) b.length cb) b.length (Lib.byteCells b)
  lG : w.heap[L.G]? = some (.cells #[.int .i64 (g : Int)] 67 (0, 0))
  lT : w.heap[L.T]? = some (.cells #[.bool tq] 4 (0, 0))
  lS : w.heap[L.S]? = some (.cells #[.bool sub] 4 (0, 0))
  lI : w.heap[L.I]? = some (.stringIter s pos)
  oB : ∃ n xs, w.ownsRow L.B 5 1 bt n xs ∧ n ≤ m
  ne : bt.ownBlock ≠ some gb
  lB : L.B ≤ w.heap.size

theorem ty_ne {w : World} {k j : Nat} {c d : Array Value} {t u : TypeId} {x y : Nat × Nat} (h : w.heap[k]? = some (.cells c t x)) (g : w.heap[j]? = some (.cells d u y)) (htu : t ≠ u) : k ≠ j := by
  intro e
  subst e
  rw [h] at g
  cases g
  exact htu rfl
theorem own_at {w : World} {base : Nat} {e : TypeId} {v : Value} {n : Nat} {xs : List Value} (h : w.ownsRow base e 1 v n xs) {k : Nat} (hk : v.ownBlock = some k) : ∃ cur, w.heap[k]? = some (.cells cur e (0, 0)) := by
  rcases h.2 with ⟨rfl, _⟩ | ⟨g, cap, cur, rfl, _, hg, _⟩
  · simp [Value.ownBlock] at hk
  · simp [Value.ownBlock] at hk
    subst hk
    exact ⟨cur, hg⟩
theorem own_ne {w : World} {base : Nat} {e : TypeId} {v : Value} {n : Nat} {xs : List Value} (h : w.ownsRow base e 1 v n xs) {k : Nat} {c : Array Value} {t : TypeId} {x : Nat × Nat} (g : w.heap[k]? = some (.cells c t x)) (ht : e ≠ t) : v.ownBlock ≠ some k := by
  intro hk
  obtain ⟨cur, hc⟩ := own_at h hk
  exact ty_ne hc g ht rfl

theorem iter_ne {w : World} {k j : Nat} {c : Array Value} {t : TypeId} {x : Nat × Nat} {s : ByteArray} {pos : Nat} (h : w.heap[k]? = some (.stringIter s pos)) (g : w.heap[j]? = some (.cells c t x)) : k ≠ j := by
  intro e
  subst e
  rw [h] at g
  cases g
theorem grown_set (w : World) (k : Nat) (u : Value) : w.grownBy (w.setCell ⟨k, 0, none⟩ u) (some k) :=
  ⟨rfl, rfl, rfl, by simp [World.setCell], fun j _ hj => Below.heap_setCell _ _ _ _ (fun e => hj (by rw [e]))⟩
theorem own_sl {w : World} {base : Nat} {e : TypeId} {v : Value} {n : Nat} {xs : List Value} (h : w.ownsRow base e 1 v n xs) (hv : v.ownBlock ≠ none ∨ 0 < n) : ∃ g c, v = .slice (some ⟨g, 0, none⟩) n c := by
  rcases h.2 with ⟨rfl, h0⟩ | ⟨g, cap, cur, rfl, _⟩
  · rcases hv with h | h
    · exact absurd rfl h
    · omega
  · exact ⟨g, cap, rfl⟩
theorem kept_ne {w w' : World} {base : Nat} {e : TypeId} {v : Value} {n : Nat} {xs : List Value} {row : Option Nat} (h : w.ownsRow base e 1 v n xs) (hg : w.grownBy w' row) (hne : ∀ k, row = some k → v.ownBlock ≠ some k) : w'.ownsRow base e 1 v n xs := h.kept hg (by
  cases hr : row with
  | none => cases hv : v.ownBlock <;> simp
  | some k => exact .inr (hne k hr))
theorem kept_ty {w w' : World} {base : Nat} {e t : TypeId} {v u : Value} {n k : Nat} {xs ys : List Value} (h : w.ownsRow base e 1 v n xs) (hu : w.ownsRow base t 1 u k ys) (hg : w.grownBy w' u.ownBlock) (ht : t ≠ e) : w'.ownsRow base e 1 v n xs := by
  refine kept_ne h hg fun j hj hv => ?_
  obtain ⟨c, hc⟩ := own_at h hv
  exact own_ne hu hc ht hj

section
variable {L : Bl} {s : ByteArray} {m pos : Nat} {a : List (List UInt8)} {ga ca : Nat} {b : List UInt8} {gb cb g : Nat} {tq sub : Bool} {bt : Value} {w : World}
theorem PM.grow (h : PM L s m pos a ga ca b gb cb g tq sub bt w) {w' : World} (hg : w.grownBy w' none) : PM L s m pos a ga ca b gb cb g tq sub bt w' := by
  have kb : ∀ {k : Nat} {o : Obj}, w.heap[k]? = some o → w'.heap[k]? = some o := fun {k o} ho => (hg.block k (lt_of_block ho) (by simp)).trans ho
  obtain ⟨n, xs, hb, hn⟩ := h.oB
  exact ⟨kb h.lA, kept_ne h.oA hg (by simp), kb h.lV, kept_ne h.oV hg (by simp), kb h.lG, kb h.lT, kb h.lS, kb h.lI, ⟨n, xs, kept_ne hb hg (by simp), hn⟩, h.ne, Nat.le_trans h.lB hg.size⟩
theorem PM.alloc (h : PM L s m pos a ga ca b gb cb g tq sub bt w) (o : Obj) : PM L s m pos a ga ca b gb cb g tq sub bt (w.alloc o) := h.grow (World.grownBy_alloc w o none)
theorem PM.more (h : PM L s m pos a ga ca b gb cb g tq sub bt w) {m' : Nat} (hm : m ≤ m') : PM L s m' pos a ga ca b gb cb g tq sub bt w := by
  obtain ⟨n, xs, hb, hn⟩ := h.oB
  exact ⟨h.lA, h.oA, h.lV, h.oV, h.lG, h.lT, h.lS, h.lI, ⟨n, xs, hb, by omega⟩, h.ne, h.lB⟩
theorem PM.iter (h : PM L s m pos a ga ca b gb cb g tq sub bt w) (p : Nat) : PM L s m p a ga ca b gb cb g tq sub bt (w.iterAt L.I s p) := by
  have hg : w.grownBy (w.iterAt L.I s p) (some L.I) := ⟨rfl, rfl, rfl, Nat.le_of_eq (Lib.iterAt_size _ _ _ _).symm, fun k hk hne => Lib.iterAt_other _ _ _ _ _ (fun e => hne (by rw [e]))⟩
  have ks : ∀ {j : Nat} {c : Array Value} {t : TypeId} {x : Nat × Nat}, w.heap[j]? = some (.cells c t x) → (w.iterAt L.I s p).heap[j]? = some (.cells c t x) := fun {j c t x} ho => (hg.block j (lt_of_block ho) (fun e => iter_ne h.lI ho (by injection e with e; exact e.symm))).trans ho
  have ko : ∀ {e : TypeId} {v : Value} {n : Nat} {xs : List Value}, w.ownsRow L.B e 1 v n xs → (w.iterAt L.I s p).ownsRow L.B e 1 v n xs := fun {e v n xs} ho => kept_ne ho hg fun k hk hv => by
    obtain ⟨c, hc⟩ := own_at ho hv
    cases hk
    exact iter_ne h.lI hc rfl
  obtain ⟨n, xs, hb, hn⟩ := h.oB
  exact ⟨ks h.lA, ko h.oA, ks h.lV, ko h.oV, ks h.lG, ks h.lT, ks h.lS, Lib.iterAt_heap _ _ _ _ _ h.lI, ⟨n, xs, ko hb, hn⟩, h.ne, Nat.le_trans h.lB hg.size⟩
theorem PM.setG (h : PM L s m pos a ga ca b gb cb g tq sub bt w) (k : Nat) : PM L s m pos a ga ca b gb cb k tq sub bt (w.setCell ⟨L.G, 0, none⟩ (.int .i64 (k : Int))) := by
  have hg := grown_set w L.G (.int .i64 (k : Int))
  have kb : ∀ {j : Nat} {o : Obj}, w.heap[j]? = some o → j ≠ L.G → (w.setCell ⟨L.G, 0, none⟩ (.int .i64 (k : Int))).heap[j]? = some o := fun {j o} ho hne => (Below.heap_setCell _ _ _ _ hne).trans ho
  obtain ⟨n, xs, hb, hn⟩ := h.oB
  exact ⟨kb h.lA (ty_ne h.lA h.lG (by decide)), h.oA.kept hg (.inr (own_ne h.oA h.lG (by decide))), kb h.lV (ty_ne h.lV h.lG (by decide)), h.oV.kept hg (.inr (own_ne h.oV h.lG (by decide))), one_setCell h.lG, kb h.lT (ty_ne h.lT h.lG (by decide)), kb h.lS (ty_ne h.lS h.lG (by decide)), kb h.lI (iter_ne h.lI h.lG),
    ⟨n, xs, hb.kept hg (.inr (own_ne hb h.lG (by decide))), hn⟩, h.ne, Nat.le_trans h.lB hg.size⟩
theorem PM.setT (h : PM L s m pos a ga ca b gb cb g tq sub bt w) (x : Bool) : PM L s m pos a ga ca b gb cb g x sub bt (w.setCell ⟨L.T, 0, none⟩ (.bool x)) := by
  have hg := grown_set w L.T (.bool x)
  have kb : ∀ {j : Nat} {o : Obj}, w.heap[j]? = some o → j ≠ L.T → (w.setCell ⟨L.T, 0, none⟩ (.bool x)).heap[j]? = some o := fun {j o} ho hne => (Below.heap_setCell _ _ _ _ hne).trans ho
  obtain ⟨n, xs, hb, hn⟩ := h.oB
  exact ⟨kb h.lA (ty_ne h.lA h.lT (by decide)), h.oA.kept hg (.inr (own_ne h.oA h.lT (by decide))), kb h.lV (ty_ne h.lV h.lT (by decide)), h.oV.kept hg (.inr (own_ne h.oV h.lT (by decide))), kb h.lG (ty_ne h.lG h.lT (by decide)), one_setCell h.lT, kb h.lS (fun e => L.hTS e.symm), kb h.lI (iter_ne h.lI h.lT),
    ⟨n, xs, hb.kept hg (.inr (own_ne hb h.lT (by decide))), hn⟩, h.ne, Nat.le_trans h.lB hg.size⟩
theorem PM.setS (h : PM L s m pos a ga ca b gb cb g tq sub bt w) (x : Bool) : PM L s m pos a ga ca b gb cb g tq x bt (w.setCell ⟨L.S, 0, none⟩ (.bool x)) := by
  have hg := grown_set w L.S (.bool x)
  have kb : ∀ {j : Nat} {o : Obj}, w.heap[j]? = some o → j ≠ L.S → (w.setCell ⟨L.S, 0, none⟩ (.bool x)).heap[j]? = some o := fun {j o} ho hne => (Below.heap_setCell _ _ _ _ hne).trans ho
  obtain ⟨n, xs, hb, hn⟩ := h.oB
  exact ⟨kb h.lA (ty_ne h.lA h.lS (by decide)), h.oA.kept hg (.inr (own_ne h.oA h.lS (by decide))), kb h.lV (ty_ne h.lV h.lS (by decide)), h.oV.kept hg (.inr (own_ne h.oV h.lS (by decide))), kb h.lG (ty_ne h.lG h.lS (by decide)), kb h.lT L.hTS, one_setCell h.lS, kb h.lI (iter_ne h.lI h.lS),
    ⟨n, xs, hb.kept hg (.inr (own_ne hb h.lS (by decide))), hn⟩, h.ne, Nat.le_trans h.lB hg.size⟩
/-- the word emptied: 'buf = buf[:0]' -/
theorem PM.empty (h : PM L s m pos a ga ca b gb cb g tq sub bt w) : PM L s m pos a ga ca [] gb cb g tq sub bt (w.setCell ⟨L.V, 0, none⟩ (.slice (some ⟨gb, 0, none⟩) 0 cb)) := by
  have hg := grown_set w L.V (.slice (some ⟨gb, 0, none⟩) 0 cb)
  have kb : ∀ {j : Nat} {o : Obj}, w.heap[j]? = some o → j ≠ L.V → (w.setCell ⟨L.V, 0, none⟩ (.slice (some ⟨gb, 0, none⟩) 0 cb)).heap[j]? = some o := fun {j o} ho hne => (Below.heap_setCell _ _ _ _ hne).trans ho
  have h0 : w.ownsRow L.B 5 1 (.slice (some ⟨gb, 0, none⟩) 0 cb) 0 [] := by
    rcases h.oV.2 with ⟨h1, _⟩ | ⟨g', cap, cur, hv, h1, h2, h3, h4, h5, _⟩
    · cases h1
    · cases hv
      exact ⟨rfl, .inr ⟨_, _, cur, rfl, h1, h2, Nat.zero_le _, h4, h5, by simp⟩⟩
  obtain ⟨n, xs, hb, hn⟩ := h.oB
  exact ⟨kb h.lA (ty_ne h.lA h.lV (by decide)), h.oA.kept hg (.inr (own_ne h.oA h.lV (by decide))), one_setCell h.lV, h0.kept hg (.inr (own_ne h0 h.lV (by decide))), kb h.lG (ty_ne h.lG h.lV (by decide)), kb h.lT (ty_ne h.lT h.lV (by decide)), kb h.lS (ty_ne h.lS h.lV (by decide)), kb h.lI (iter_ne h.lI h.lV),
    ⟨n, xs, hb.kept hg (.inr (own_ne hb h.lV (by decide))), hn⟩, h.ne, Nat.le_trans h.lB hg.size⟩
/-- behind an append to the word and the store into its variable -/
theorem PM.app {l : List UInt8} {v' : Value} {w' : World} (h : PM L s m pos a ga ca b gb cb g tq sub bt w) (hg : w.grownBy w' (some gb)) (ho : w'.ownsRow L.B 5 1 v' (b.length + l.length) (Lib.byteCells b ++ Lib.byteCells l)) (hat : v'.ownBlock = some gb ∨ v'.ownBlock = some w.heap.size) :
    ∃ g' c', v' = .slice (some ⟨g', 0, none⟩) (b.length + l.length) c' ∧ w'.heap[L.V]? = some (.cells #[.slice (some ⟨gb, 0, none⟩) b.length cb] 56 (0, 0)) ∧ PM L s m pos a ga ca (b ++ l) g' c' g tq sub bt (w'.setCell ⟨L.V, 0, none⟩ (.slice (some ⟨g', 0, none⟩) (b.length + l.length) c')) := by
  have kb : ∀ {j : Nat} {c : Array Value} {t : TypeId} {x : Nat × Nat}, w.heap[j]? = some (.cells c t x) → 5 ≠ t → w'.heap[j]? = some (.cells c t x) := fun {j c t x} ho' ht => (hg.block j (lt_of_block ho') (fun e => own_ne h.oV ho' ht (by rw [e]; rfl))).trans ho'
  have ki : w'.heap[L.I]? = some (.stringIter s pos) := (hg.block _ (lt_of_block h.lI) (fun e => by
    obtain ⟨cur, hc⟩ := own_at h.oV (k := gb) rfl
    cases e
    exact iter_ne h.lI hc rfl)).trans h.lI
  obtain ⟨n, xs, hb, hn⟩ := h.oB
  have hb' : w'.ownsRow L.B 5 1 bt n xs := kept_ne hb hg fun k hk e => by cases hk; exact h.ne e
  obtain ⟨g', c', rfl⟩ := own_sl ho (.inl (by rcases hat with e | e <;> rw [e] <;> simp))
  have hnb : bt.ownBlock ≠ some g' := fun e => by
    rcases hat with h' | h'
    · cases h'
      exact h.ne e
    · have := hb.lt _ e
      have e2 : g' = w.heap.size := Option.some.inj h'
      omega
  refine ⟨g', c', rfl, kb h.lV (by decide), ?_⟩
  have hA := kb h.lA (by decide)
  have hV := kb h.lV (by decide)
  have hG := kb h.lG (by decide)
  have hT := kb h.lT (by decide)
  have hS := kb h.lS (by decide)
  have oA' : w'.ownsRow L.B 9 1 (.slice (some ⟨ga, 0, none⟩) a.length ca) a.length (a.map strV) := kept_ty h.oA h.oV hg (by decide)
  have hset := grown_set w' L.V (.slice (some ⟨g', 0, none⟩) (b.length + l.length) c')
  have ks : ∀ {j : Nat} {o : Obj}, w'.heap[j]? = some o → j ≠ L.V → (w'.setCell ⟨L.V, 0, none⟩ (.slice (some ⟨g', 0, none⟩) (b.length + l.length) c')).heap[j]? = some o := fun {j o} ho hne => (Below.heap_setCell _ _ _ _ hne).trans ho
  have hl : (b ++ l).length = b.length + l.length := List.length_append
  have hc : Lib.byteCells (b ++ l) = Lib.byteCells b ++ Lib.byteCells l := by simp [Lib.byteCells]
  refine ⟨ks hA (ty_ne hA hV (by decide)), oA'.kept hset (.inr (own_ne oA' hV (by decide))), ?_, ?_, ks hG (ty_ne hG hV (by decide)), ks hT (ty_ne hT hV (by decide)), ks hS (ty_ne hS hV (by decide)), ks ki (iter_ne ki hV),
    ⟨n, xs, hb'.kept hset (.inr (own_ne hb' hV (by decide))), hn⟩, hnb, Nat.le_trans h.lB (Nat.le_trans hg.size hset.size)⟩
  · rw [hl]; exact one_setCell hV
  · rw [hl, hc]; exact ho.kept hset (.inr (own_ne ho hV (by decide)))
/-- behind an append to the words and the store into their variable -/
theorem PM.appA {x : List UInt8} {v' : Value} {w' : World} (h : PM L s m pos a ga ca b gb cb g tq sub bt w) (hg : w.grownBy w' (some ga)) (ho : w'.ownsRow L.B 9 1 v' (a.length + 1) (a.map strV ++ [strV x])) :
    ∃ g' c', v' = .slice (some ⟨g', 0, none⟩) (a.length + 1) c' ∧ w'.heap[L.A]? = some (.cells #[.slice (some ⟨ga, 0, none⟩) a.length ca] 24 (0, 0)) ∧ PM L s m pos (a ++ [x]) g' c' b gb cb g tq sub bt (w'.setCell ⟨L.A, 0, none⟩ (.slice (some ⟨g', 0, none⟩) (a.length + 1) c')) := by
  have kb : ∀ {j : Nat} {c : Array Value} {t : TypeId} {x : Nat × Nat}, w.heap[j]? = some (.cells c t x) → 9 ≠ t → w'.heap[j]? = some (.cells c t x) := fun {j c t x} ho' ht => (hg.block j (lt_of_block ho') (fun e => own_ne h.oA ho' ht (by rw [e]; rfl))).trans ho'
  have ki : w'.heap[L.I]? = some (.stringIter s pos) := (hg.block _ (lt_of_block h.lI) (fun e => by
    obtain ⟨cur, hc⟩ := own_at h.oA (k := ga) rfl
    cases e
    exact iter_ne h.lI hc rfl)).trans h.lI
  obtain ⟨n, xs, hb, hn⟩ := h.oB
  have hb' : w'.ownsRow L.B 5 1 bt n xs := kept_ty hb h.oA hg (by decide)
  have oV' : w'.ownsRow L.B 5 1 (.slice (some ⟨gb, 0, none⟩) b.length cb) b.length (Lib.byteCells b) := kept_ty h.oV h.oA hg (by decide)
  obtain ⟨g', c', rfl⟩ := own_sl ho (.inr (by omega))
  refine ⟨g', c', rfl, kb h.lA (by decide), ?_⟩
  have hA := kb h.lA (by decide)
  have hV := kb h.lV (by decide)
  have hG := kb h.lG (by decide)
  have hT := kb h.lT (by decide)
  have hS := kb h.lS (by decide)
  have hset := grown_set w' L.A (.slice (some ⟨g', 0, none⟩) (a.length + 1) c')
  have ks : ∀ {j : Nat} {o : Obj}, w'.heap[j]? = some o → j ≠ L.A → (w'.setCell ⟨L.A, 0, none⟩ (.slice (some ⟨g', 0, none⟩) (a.length + 1) c')).heap[j]? = some o := fun {j o} ho hne => (Below.heap_setCell _ _ _ _ hne).trans ho
  refine ⟨?_, ?_, ks hV (ty_ne hV hA (by decide)), oV'.kept hset (.inr (own_ne oV' hA (by decide))), ks hG (ty_ne hG hA (by decide)), ks hT (ty_ne hT hA (by decide)), ks hS (ty_ne hS hA (by decide)), ks ki (iter_ne ki hA),
    ⟨n, xs, hb'.kept hset (.inr (own_ne hb' hA (by decide))), hn⟩, h.ne, Nat.le_trans h.lB (Nat.le_trans hg.size hset.size)⟩
  · rw [List.length_append]; exact one_setCell hA
  · rw [List.length_append, List.map_append]; exact ho.kept hset (.inr (own_ne ho hA (by decide)))
/-- behind an append to the row that nothing reads -/
theorem PM.appB {bt' : Value} {n : Nat} {xs : List Value} {w' : World} (h : PM L s m pos a ga ca b gb cb g tq sub bt w) (hg : w.grownBy w' bt.ownBlock) (ho : w'.ownsRow L.B 5 1 bt' n xs) (hat : bt'.ownBlock = bt.ownBlock ∨ bt'.ownBlock = some w.heap.size) {m' : Nat} (hn : n ≤ m') :
    PM L s m' pos a ga ca b gb cb g tq sub bt' w' := by
  obtain ⟨n0, xs0, hb, hn0⟩ := h.oB
  have kb : ∀ {j : Nat} {c : Array Value} {t : TypeId} {x : Nat × Nat}, w.heap[j]? = some (.cells c t x) → 5 ≠ t → w'.heap[j]? = some (.cells c t x) := fun {j c t x} ho' ht => (hg.block j (lt_of_block ho') (fun e => own_ne hb ho' ht e.symm)).trans ho'
  have ki : w'.heap[L.I]? = some (.stringIter s pos) := (hg.block _ (lt_of_block h.lI) (fun e => by
    obtain ⟨cur, hc⟩ := own_at hb e.symm
    exact iter_ne h.lI hc rfl)).trans h.lI
  have hV' : w'.ownsRow L.B 5 1 (.slice (some ⟨gb, 0, none⟩) b.length cb) b.length (Lib.byteCells b) := kept_ne h.oV hg fun k hk e => by cases e; exact h.ne hk
  exact ⟨kb h.lA (by decide), kept_ty h.oA hb hg (by decide), kb h.lV (by decide), hV', kb h.lG (by decide), kb h.lT (by decide), kb h.lS (by decide), ki, ⟨n, xs, ho, hn⟩, fun e => by
    rcases hat with h' | h'
    · exact h.ne (h' ▸ e)
    · have := h.oV.lt gb rfl
      rw [h'] at e
      cases e
      omega, Nat.le_trans h.lB hg.size⟩
/-- the row that nothing reads, emptied -/
theorem PM.emptyB {gt nt ct : Nat} (h : PM L s m pos a ga ca b gb cb g tq sub (.slice (some ⟨gt, 0, none⟩) nt ct) w) : PM L s m pos a ga ca b gb cb g tq sub (.slice (some ⟨gt, 0, none⟩) 0 ct) w := by
  obtain ⟨n, xs, hb, hn⟩ := h.oB
  refine ⟨h.lA, h.oA, h.lV, h.oV, h.lG, h.lT, h.lS, h.lI, ⟨0, [], ?_, Nat.zero_le _⟩, h.ne, h.lB⟩
  rcases hb.2 with ⟨h1, _⟩ | ⟨g', cap, cur, hv, h1, h2, h3, h4, h5, _⟩
  · cases h1
  · cases hv
    exact ⟨rfl, .inr ⟨_, _, cur, rfl, h1, h2, Nat.zero_le _, h4, h5, by simp⟩⟩
/-- the row that nothing reads is nil or a slice -/
theorem PM.formB (h : PM L s m pos a ga ca b gb cb g tq sub bt w) : bt = .slice none 0 0 ∨ ∃ gt nt ct, bt = .slice (some ⟨gt, 0, none⟩) nt ct ∧ nt ≤ m := by
  obtain ⟨n, xs, hb, hn⟩ := h.oB
  rcases hb.2 with ⟨h1, _⟩ | ⟨g', cap, cur, hv, _⟩
  · exact .inl h1
  · exact .inr ⟨g', n, cap, hv, hn⟩
end
end Go.Proofs.YtcjfcjlendibpaaDoor

set_option linter.unusedVariables false
namespace Go.Proofs.YtcjfcjlendibpaaDoor
open Go.RowKit Plain

theorem conv_b {L : Bl} {s : ByteArray} {m pos : Nat} {a : List (List UInt8)} {ga ca : Nat} {b : List UInt8} {gb cb g : Nat} {tq sub : Bool} {bt : Value} {w : World} (h : PM L s m pos a ga ca b gb cb g tq sub bt w) :
    (convert 56 9 (.slice (some ⟨gb, 0, none⟩) b.length cb)).run Tryd.prog w = .ok (.string ⟨b.toArray⟩) w := by
  refine run_convert_bytes_back w 56 9 5 ⟨gb, 0, none⟩ cb b Tryd.underlying56 Tryd.underlying5 Tryd.underlying9 ?_
  intro j hj
  exact h.oV.cells (g := gb) rfl j _ (by simp [Lib.byteCells, hj])
/-- the end of the closure: the word emptied, three variables set back -/
theorem flA_yes {a : List (List UInt8)} {b : List UInt8} {g : Nat} (h : g = 2 ∨ (g ≠ 0 ∧ b ≠ [])) : flA a b g = a ++ [b] := by
  unfold flA
  rw [if_pos]
  rcases h with h | ⟨h1, h2⟩
  · simp [h]
  · have : b.isEmpty = false := by cases b with | nil => exact absurd rfl h2 | cons x l => rfl
    simp [h1, this]
theorem flA_no {a : List (List UInt8)} {b : List UInt8} {g : Nat} (h : g ≠ 2 ∧ (g = 0 ∨ b = [])) : flA a b g = a := by
  unfold flA
  rw [if_neg]
  rcases h with ⟨h0, h | h⟩
  · simp [h]
  · simp [h, h0]
theorem set_back {L : Bl} {s : ByteArray} {m pos : Nat} {a : List (List UInt8)} {ga ca : Nat} {b : List UInt8} {gb cb g : Nat} {tq sub : Bool} {bt : Value} {w0 w : World} (h : PM L s m pos a ga ca b gb cb g tq sub bt w) (hb : Below L.B w0 w) :
    PM L s m pos a ga ca [] gb cb 0 false false bt ((((w.setCell ⟨L.V, 0, none⟩ (.slice (some ⟨gb, 0, none⟩) 0 cb)).setCell ⟨L.G, 0, none⟩ (.int .i64 0)).setCell ⟨L.T, 0, none⟩ (.bool false)).setCell ⟨L.S, 0, none⟩ (.bool false)) ∧
    Below L.B w0 ((((w.setCell ⟨L.V, 0, none⟩ (.slice (some ⟨gb, 0, none⟩) 0 cb)).setCell ⟨L.G, 0, none⟩ (.int .i64 0)).setCell ⟨L.T, 0, none⟩ (.bool false)).setCell ⟨L.S, 0, none⟩ (.bool false)) :=
  ⟨(((h.empty.setG 0).setT false).setS false), (((hb.setCell L.hV _).setCell L.hG _).setCell L.hT _).setCell L.hS _⟩
set_option maxHeartbeats 1000000 in
set_option maxRecDepth 100000 in
theorem flush_any {L : Bl} {s : ByteArray} {m pos : Nat} {a : List (List UInt8)} {ga ca : Nat} {b : List UInt8} {gb cb g : Nat} {tq sub : Bool} {bt : Value} (w : World) (h : PM L s m pos a ga ca b gb cb g tq sub bt w) (hal : a.length ≤ 4294967296) (hbl : b.length ≤ 1099511627776) :
    Calls Tryd.prog 38 #[.pointer (some ⟨L.G, 0, none⟩), .pointer (some ⟨L.V, 0, none⟩), .pointer (some ⟨L.A, 0, none⟩), .pointer (some ⟨L.T, 0, none⟩), .pointer (some ⟨L.S, 0, none⟩)] w
      fun e w' => e = .returned (.tuple #[]) ∧ (∃ ga' ca', PM L s m pos (flA a b g) ga' ca' [] gb cb 0 false false bt w') ∧ Below L.B w w' := by
  obtain ⟨i0, hi, hz0, hz1, hz2⟩ := info_parts infoStr
  have cG := cell_of_one h.lG
  have cV := cell_of_one h.lV
  have cA := cell_of_one h.lA
  have fG := free_of_one h.lG
  have fV := free_of_one h.lV
  have fA := free_of_one h.lA
  have fT := free_of_one h.lT
  have fS := free_of_one h.lS
  have hcv := conv_b h
  have HPM := Lib.hid h
  have hown := Lib.hid h.oA
  by_cases hc : g = 2 ∨ (g ≠ 0 ∧ b ≠ [])
  · have HF := Lib.hid (flA_yes (a := a) hc)
    have hc2 : g = 2 ∨ ((g : Int) ≠ 2 ∧ (g : Int) ≠ 0 ∧ 0 < b.length) := by
      rcases hc with h | ⟨h1, h2⟩
      · exact .inl h
      · by_cases h3 : g = 2
        · exact .inl h3
        · exact .inr ⟨by omega, by omega, List.length_pos_iff.2 h2⟩
    clear h hc
    rcases hc2 with rfl | ⟨h1, h2, h3⟩
    · go_enter Tryd.func38, Tryd.ntmps38
      go_wp2_with (at_builtin; refine wpList_append_own _ rfl _ _ 24 rfl L.B 9 i0 (.string ByteArray.empty) 1 16 Tryd.underlying24 hi hz0 hz1 hz2 rfl (by decide) _ _ _ rfl (hown.out.alloc _) ⟨w.heap.size, 0, none⟩ 1 1 [.string ⟨b.toArray⟩] rfl rfl ?c1 ?c2 ?c3 ?c4 ?c5 ?_)
      case c1 => exact cell_one_new _ _ _
      case c2 => intro u hu; simp at hu; subst hu; rfl
      case c3 => unfold maxLen; omega
      case c4 => omega
      case c5 => have := HPM.out.lB; simp; omega
      intro v' w1 hown' hgr _
      obtain ⟨g', c', rfl, hA1, hPM1⟩ := (HPM.out.alloc (.cells #[.string ⟨b.toArray⟩] 9)).appA hgr hown'
      have hB1 := ((((Below.refl L.B w).alloc HPM.out.lB (.cells #[.string ⟨b.toArray⟩] 9)).grown hgr (by have := HPM.out.lB; simp; omega) (fun k hk => (HPM.out.oA.lt k hk).1)).setCell (p := ⟨L.A, 0, none⟩) L.hA (.slice (some ⟨g', 0, none⟩) (a.length + 1) c'))
      have fA1 := free_of_one hA1
      have cA1 := cell_of_one hA1
      clear hA1 hown' hgr cG cV cA fG fV fA fT fS
      go_upto_region 2 with fail
      rw [← HF.out] at hPM1
      generalize (w1.setCell ⟨L.A, 0, none⟩ (.slice (some ⟨g', 0, none⟩) (a.length + 1) c')) = w2 at hPM1 hB1 ⊢
      clear fA1 cA1
      have cV := cell_of_one hPM1.lV
      have cG := cell_of_one hPM1.lG
      have cT := cell_of_one hPM1.lT
      have cS := cell_of_one hPM1.lS
      have fG := free_of_one hPM1.lG
      have fV := free_of_one hPM1.lV
      have fT := free_of_one hPM1.lT
      have fS := free_of_one hPM1.lS
      have n1 : L.G ≠ L.V := ty_ne hPM1.lG hPM1.lV (by decide)
      have n2 : L.T ≠ L.V := ty_ne hPM1.lT hPM1.lV (by decide)
      have n3 : L.S ≠ L.V := ty_ne hPM1.lS hPM1.lV (by decide)
      have n4 : L.T ≠ L.G := ty_ne hPM1.lT hPM1.lG (by decide)
      have n5 : L.S ≠ L.G := ty_ne hPM1.lS hPM1.lG (by decide)
      have n6 : L.S ≠ L.T := fun e => L.hTS e.symm
      have HE := Lib.hid (set_back hPM1 hB1)
      clear hPM1 hB1
      go_wp2
      go_end0
      exact ⟨rfl, ⟨_, _, HE.out.1⟩, HE.out.2⟩
    · have e1 : ((g : Int) == 2) = false := by simpa using h1
      have e2 : ((g : Int) != 0) = true := by simpa using h2
      clear h1 h2
      go_enter Tryd.func38, Tryd.ntmps38
      go_wp2_with (at_builtin; refine wpList_append_own _ rfl _ _ 24 rfl L.B 9 i0 (.string ByteArray.empty) 1 16 Tryd.underlying24 hi hz0 hz1 hz2 rfl (by decide) _ _ _ rfl (hown.out.alloc _) ⟨w.heap.size, 0, none⟩ 1 1 [.string ⟨b.toArray⟩] rfl rfl ?c1 ?c2 ?c3 ?c4 ?c5 ?_)
      case c1 => exact cell_one_new _ _ _
      case c2 => intro u hu; simp at hu; subst hu; rfl
      case c3 => unfold maxLen; omega
      case c4 => omega
      case c5 => have := HPM.out.lB; simp; omega
      intro v' w1 hown' hgr _
      obtain ⟨g', c', rfl, hA1, hPM1⟩ := (HPM.out.alloc (.cells #[.string ⟨b.toArray⟩] 9)).appA hgr hown'
      have hB1 := ((((Below.refl L.B w).alloc HPM.out.lB (.cells #[.string ⟨b.toArray⟩] 9)).grown hgr (by have := HPM.out.lB; simp; omega) (fun k hk => (HPM.out.oA.lt k hk).1)).setCell (p := ⟨L.A, 0, none⟩) L.hA (.slice (some ⟨g', 0, none⟩) (a.length + 1) c'))
      have fA1 := free_of_one hA1
      have cA1 := cell_of_one hA1
      clear hA1 hown' hgr cG cV cA fG fV fA fT fS
      go_upto_region 2 with fail
      rw [← HF.out] at hPM1
      generalize (w1.setCell ⟨L.A, 0, none⟩ (.slice (some ⟨g', 0, none⟩) (a.length + 1) c')) = w2 at hPM1 hB1 ⊢
      clear fA1 cA1
      have cV := cell_of_one hPM1.lV
      have cG := cell_of_one hPM1.lG
      have cT := cell_of_one hPM1.lT
      have cS := cell_of_one hPM1.lS
      have fG := free_of_one hPM1.lG
      have fV := free_of_one hPM1.lV
      have fT := free_of_one hPM1.lT
      have fS := free_of_one hPM1.lS
      have n1 : L.G ≠ L.V := ty_ne hPM1.lG hPM1.lV (by decide)
      have n2 : L.T ≠ L.V := ty_ne hPM1.lT hPM1.lV (by decide)
      have n3 : L.S ≠ L.V := ty_ne hPM1.lS hPM1.lV (by decide)
      have n4 : L.T ≠ L.G := ty_ne hPM1.lT hPM1.lG (by decide)
      have n5 : L.S ≠ L.G := ty_ne hPM1.lS hPM1.lG (by decide)
      have n6 : L.S ≠ L.T := fun e => L.hTS e.symm
      have HE := Lib.hid (set_back hPM1 hB1)
      clear hPM1 hB1
      go_wp2
      go_end0
      exact ⟨rfl, ⟨_, _, HE.out.1⟩, HE.out.2⟩
  · have HF := Lib.hid (flA_no (a := a) (b := b) (g := g) (by
      refine ⟨fun e => hc (.inl e), ?_⟩
      by_cases h0 : g = 0
      · exact .inl h0
      · by_cases h1 : b = []
        · exact .inr h1
        · exact absurd (.inr ⟨h0, h1⟩) hc))
    have hc2 : g = 0 ∨ ((g : Int) ≠ 2 ∧ (g : Int) ≠ 0 ∧ ¬ 0 < b.length) := by
      by_cases h0 : g = 0
      · exact .inl h0
      · refine .inr ⟨fun e => hc (.inl (by omega)), by omega, fun e => hc (.inr ⟨h0, fun h1 => by simp [h1] at e⟩)⟩
    have hPM1 := h
    have hB1 := Below.refl L.B w
    rw [← HF.out] at hPM1
    clear h hc HPM hown hi hz0 hz1 hz2
    rcases hc2 with rfl | ⟨h1, h2, h3⟩
    · go_enter Tryd.func38, Tryd.ntmps38
      go_upto_region 2 with fail
      clear cG cV cA fG fV fA fT fS hcv
      have cV := cell_of_one hPM1.lV
      have cG := cell_of_one hPM1.lG
      have cT := cell_of_one hPM1.lT
      have cS := cell_of_one hPM1.lS
      have fG := free_of_one hPM1.lG
      have fV := free_of_one hPM1.lV
      have fT := free_of_one hPM1.lT
      have fS := free_of_one hPM1.lS
      have n1 : L.G ≠ L.V := ty_ne hPM1.lG hPM1.lV (by decide)
      have n2 : L.T ≠ L.V := ty_ne hPM1.lT hPM1.lV (by decide)
      have n3 : L.S ≠ L.V := ty_ne hPM1.lS hPM1.lV (by decide)
      have n4 : L.T ≠ L.G := ty_ne hPM1.lT hPM1.lG (by decide)
      have n5 : L.S ≠ L.G := ty_ne hPM1.lS hPM1.lG (by decide)
      have n6 : L.S ≠ L.T := fun e => L.hTS e.symm
      have HE := Lib.hid (set_back hPM1 hB1)
      clear hPM1 hB1
      go_wp2
      go_end0
      exact ⟨rfl, ⟨_, _, HE.out.1⟩, HE.out.2⟩
    · have e1 : ((g : Int) == 2) = false := by simpa using h1
      have e2 : ((g : Int) != 0) = true := by simpa using h2
      clear h1 h2
      go_enter Tryd.func38, Tryd.ntmps38
      go_upto_region 2 with fail
      clear cG cV cA fG fV fA fT fS hcv
      have cV := cell_of_one hPM1.lV
      have cG := cell_of_one hPM1.lG
      have cT := cell_of_one hPM1.lT
      have cS := cell_of_one hPM1.lS
      have fG := free_of_one hPM1.lG
      have fV := free_of_one hPM1.lV
      have fT := free_of_one hPM1.lT
      have fS := free_of_one hPM1.lS
      have n1 : L.G ≠ L.V := ty_ne hPM1.lG hPM1.lV (by decide)
      have n2 : L.T ≠ L.V := ty_ne hPM1.lT hPM1.lV (by decide)
      have n3 : L.S ≠ L.V := ty_ne hPM1.lS hPM1.lV (by decide)
      have n4 : L.T ≠ L.G := ty_ne hPM1.lT hPM1.lG (by decide)
      have n5 : L.S ≠ L.G := ty_ne hPM1.lS hPM1.lG (by decide)
      have n6 : L.S ≠ L.T := fun e => L.hTS e.symm
      have HE := Lib.hid (set_back hPM1 hB1)
      clear hPM1 hB1
      go_wp2
      go_end0
      exact ⟨rfl, ⟨_, _, HE.out.1⟩, HE.out.2⟩
end Go.Proofs.YtcjfcjlendibpaaDoor

set_option linter.unusedVariables false
namespace Go.Proofs.YtcjfcjlendibpaaDoor
open Go.RowKit Plain

set_option maxRecDepth 100000 in
theorem isSpace_any (r : Nat) (w : World) (x : Bool) (hx : isSpN r = x) :
    Calls Tryd.prog 40 #[.int .i32 (r : Int)] w fun e w' => e = .returned (.bool x) ∧ w = w' := by
  have h : (r = 32 ∨ r = 9 ∨ r = 13 ∨ r = 10) ∧ x = true ∨ ((r : Int) ≠ 32 ∧ (r : Int) ≠ 9 ∧ (r : Int) ≠ 13 ∧ (r : Int) ≠ 10) ∧ x = false := by
    unfold isSpN at hx
    by_cases h : r = 32 ∨ r = 9 ∨ r = 13 ∨ r = 10
    · refine .inl ⟨h, ?_⟩
      rw [← hx]
      rcases h with rfl | rfl | rfl | rfl <;> rfl
    · refine .inr ⟨by omega, ?_⟩
      rw [← hx]
      simp
      omega
  clear hx
  rcases h with ⟨h, rfl⟩ | ⟨⟨h1, h2, h3, h4⟩, rfl⟩
  · rcases h with rfl | rfl | rfl | rfl
    all_goals
      go_enter Tryd.func40, Tryd.ntmps40
      go_wp2
      go_ret
      exact ⟨rfl, rfl⟩
  · have e1 : ((r : Int) == 32) = false := by simpa using h1
    have e2 : ((r : Int) == 9) = false := by simpa using h2
    have e3 : ((r : Int) == 13) = false := by simpa using h3
    have e4 : ((r : Int) == 10) = false := by simpa using h4
    clear h1 h2 h3 h4
    go_enter Tryd.func40, Tryd.ntmps40
    go_wp2
    go_ret
    exact ⟨rfl, rfl⟩

set_option maxRecDepth 100000 in
theorem isExcluded_any (P cx : Nat) (ad : Option Addr) (r : Int) (w : World) (h : w.cell? ⟨P, 3, none⟩ = some (.slice ad 0 cx)) :
    Calls Tryd.prog 39 #[.pointer (some ⟨P, 0, none⟩), .int .i32 r] w fun e w' => e = .returned (.bool false) ∧ w = w' := by
  go_enter Tryd.func39, Tryd.ntmps39
  go_wp2
  go_loopg [12] 0 (fun c iv wr => iv = .int .i64 0 ∧ w = wr)
  case atStart => exact ⟨rfl, rfl⟩
  case round =>
    obtain ⟨rfl, rfl⟩ := hrel
    go_wp2
    go_ret
    exact ⟨rfl, rfl⟩

/-- no variables: the value of each name is empty -/
theorem getenv_any (O : Nat) (name : ByteArray) (w : World) (h : w.cell? ⟨O, 2, none⟩ = some (.slice none 0 0)) :
    Calls Tryd.prog 36 #[.string name, .pointer (some ⟨O, 0, none⟩)] w fun e w' => e = .returned (.string ⟨#[]⟩) ∧ w = w' := by
  go_enter Tryd.func36, Tryd.ntmps36
  go_wp2
  go_loopg [4, 10] 0 (fun c vv iv wr => vv = .string ⟨#[]⟩ ∧ iv = .int .i64 0 ∧ w = wr)
  case atStart => exact ⟨rfl, rfl, rfl⟩
  case round =>
    obtain ⟨rfl, rfl, rfl⟩ := hrel
    go_wp2
    go_ret
    exact ⟨rfl, rfl⟩
end Go.Proofs.YtcjfcjlendibpaaDoor
