/- The lexer's run, and lex: the items of a text. -/
import Derived.Test.YtackciefmdiphaaGreatDoorLexSt3
import Derived.Laws.EntriesVeiled
set_option linter.unusedVariables false
namespace Go.Proofs.YtackciefmdiphaaGreatDoor
open Go.RowKit Plain

/-- the lexer, with what its state's field holds -/
def LZ (B lb : Nat) (s : ByteArray) (V : Value) (pos start : Nat) (rs : List Nat) (its : List LI) (w : World) : Prop :=
  ∃ wd lp rv iv, w.heap[lb]? = some (lxC s V pos start wd lp rv iv) ∧ w.ownsRow B 21 1 rv rs.length (rs.map rcell) ∧ w.ownsRow B 121 3 iv its.length (itemsC its) ∧ (∃ g cap, rv = .slice (some ⟨g, 0, none⟩) rs.length cap) ∧ B ≤ lb
theorem LZ.ly {B lb pos start : Nat} {s : ByteArray} {V : Value} {rs : List Nat} {its : List LI} {w : World} (h : LZ B lb s V pos start rs its w) : LY B lb s pos start rs its w := by
  obtain ⟨wd, lp, rv, iv, h1, h2, h3, h4, h5⟩ := h
  exact ⟨wd, ⟨V, lp, rv, iv, h1, h2, h3, h4⟩, h5⟩
theorem LY.lz {B lb pos start : Nat} {s : ByteArray} {rs : List Nat} {its : List LI} {w : World} (h : LY B lb s pos start rs its w) (V : Value) : LZ B lb s V pos start rs its (w.setCell ⟨lb, 1, none⟩ V) := by
  obtain ⟨wd, ⟨⟨st, lp, rv, iv, h1, h2, h3, h4⟩, h5⟩⟩ := h
  exact ⟨wd, lp, rv, iv, (lx_set h1 1 V).trans rfl, row_set h2 h1 (by decide), row_set h3 h1 (by decide), h4, h5⟩
theorem LZ.cell {B lb pos start : Nat} {s : ByteArray} {V : Value} {rs : List Nat} {its : List LI} {w : World} (h : LZ B lb s V pos start rs its w) : w.cell? ⟨lb, 1, none⟩ = some V ∧ w.frozen? ⟨lb, 1, none⟩ = false := by
  obtain ⟨wd, lp, rv, iv, h1, _⟩ := h
  unfold lxC at h1
  simp [World.cell?, World.frozen?, h1]
theorem LY.froz {B lb pos start : Nat} {s : ByteArray} {rs : List Nat} {its : List LI} {w : World} (h : LY B lb s pos start rs its w) : w.frozen? ⟨lb, 1, none⟩ = false ∧ ∃ st, w.cell? ⟨lb, 1, none⟩ = some st := by
  obtain ⟨wd, ⟨⟨st, lp, rv, iv, h1, h2, h3, h4⟩, h5⟩⟩ := h
  exact ⟨(lx_cells h1).2.2.2.2.2.2.1, st, by simp [World.cell?, h1]⟩
theorem lexS_len (s : ByteArray) (nx : NX) (p : Nat) : (lexS s nx p).1.length ≤ 2 := by
  unfold lexS
  cases nx with
  | before => dsimp only; (repeat' split) <;> simp
  | comment => dsimp only; split <;> simp
  | key => dsimp only; split <;> (try simp) <;> (repeat' split) <;> simp
  | bval => simp
  | val => dsimp only; split <;> (try simp) <;> (repeat' split) <;> simp
theorem nxV_fn (x : NX) : ∃ fn, nxV x = .func fn #[] #[] := by cases x <;> exact ⟨_, rfl⟩
theorem neqF (fn : Fn) (w : World) : (binOp .neq 112 (.func fn #[] #[]) .nilFunc).run Tryz.prog w = .ok (.bool true) w := by kernel_rfl
theorem neqN (w : World) : (binOp .neq 112 .nilFunc .nilFunc).run Tryz.prog w = .ok (.bool false) w := by kernel_rfl
/-- where a run stands: a state that is next; or the end -/
def RunR (B lb : Nat) (s : ByteArray) (f : Nat) (w : World) : Prop :=
  (∃ nx p st its, LZ B lb s (nxV nx) p st [] its w ∧ (nx = .comment ∨ st = p) ∧ p ≤ s.size ∧ muN s nx p < f ∧ its ++ lexN s f nx p = lexL s ∧ its.length + 2 * f ≤ 850000)
  ∨ (∃ q st rs, LZ B lb s .nilFunc q st rs (lexL s) w)
theorem run_step {B lb f : Nat} {s : ByteArray} {nx : NX} {p : Nat} {its : List LI} {w w' : World} {e : Ending} (hp : p ≤ s.size) (hmu : muN s nx p < f + 1) (hl : its ++ lexN s (f + 1) nx p = lexL s) (hb : its.length + 2 * (f + 1) ≤ 850000) (h : StPost B lb s its (lexS s nx p) w e w') :
    ∃ V, e = .returned V ∧ (V = .nilFunc ∨ ∃ fn, V = .func fn #[] #[]) ∧ RunR B lb s f (w'.setCell ⟨lb, 1, none⟩ V) ∧ (∃ q st rs its', LY B lb s q st rs its' w') ∧ Below B w w' := by
  obtain ⟨h1, h2⟩ := h
  have hlen := lexS_len s nx p
  have hmu2 := lexS_mu s nx p hp
  unfold lexN at hl
  cases hr : (lexS s nx p).2 with
  | none =>
    rw [hr] at h1 hl
    obtain ⟨rfl, q, st, rs, hy⟩ := h1
    rw [List.append_nil] at hl
    rw [hl] at hy
    exact ⟨_, rfl, .inl rfl, .inr ⟨q, st, rs, hy.lz _⟩, ⟨q, st, rs, _, hy⟩, h2⟩
  | some x =>
    rw [hr] at h1 hl
    obtain ⟨rfl, st, hy, hst⟩ := h1
    have hm := hmu2 x hr
    refine ⟨_, rfl, .inr (nxV_fn x.1), .inl ⟨x.1, x.2, st, _, hy.lz _, hst, hm.2.1, by omega, ?_, ?_⟩, ⟨_, _, _, _, hy⟩, h2⟩
    · rw [List.append_assoc]; exact hl
    · rw [List.length_append]; omega
set_option maxHeartbeats 8000000 in
set_option maxRecDepth 100000 in
theorem run_any (B lb : Nat) (s : ByteArray) (w : World) (h : LY B lb s 0 0 [] [] w) (hs : s.size ≤ 100000) (hT : TabsL B w) :
    Calls Tryz.prog 88 #[.pointer (some ⟨lb, 0, none⟩)] w fun e w' => e = .returned (.tuple #[]) ∧ (∃ q st rs, LY B lb s q st rs (lexL s) w') ∧ Below B w w' := by
  have hlo : B ≤ lb := by obtain ⟨wd, h⟩ := h; exact h.lo
  have HT := Lib.hid hT
  have HB1 := Lib.hid (before_any B lb 0 0 s [] w h (by omega) (Nat.zero_le _) (by simp) hT rfl _ rfl)
  have HST := Lib.hid (fun e w' (k : StPost B lb s [] (lexS s .before 0) w e w') => run_step (B := B) (lb := lb) (f := 4 * s.size + 3) (s := s) (nx := .before) (p := 0) (its := []) (w := w) (w' := w') (e := e) (Nat.zero_le _) (by show 4 * (s.size - 0) + 3 < _; omega) (by rfl) (by simp; omega) k)
  clear h hT
  have hnF := neqF
  have hnN := neqN
  go_enter Tryz.func88, Tryz.ntmps88
  go_wp2_with (go_at_call 101; with_reducible refine HB1.out.mono ?_)
  intro e w1 hp1
  obtain ⟨V, rfl, hV, hR, ⟨q, st, rs, its', hy⟩, hb⟩ := HST.out e w1 hp1
  dsimp only
  obtain ⟨f1, st1, c1⟩ := hy.froz
  have HR := Lib.hid hR
  have HBB : Hid (Below B w (w1.setCell ⟨lb, 1, none⟩ V)) := Lib.hid (hb.setCell (p := ⟨lb, 1, none⟩) hlo V)
  clear hp1 hR hy hb HST HB1
  rcases hV with rfl | ⟨fn, rfl⟩
  all_goals
    go_wp2
    go_loopg [11] (4 * s.size + 4) (fun g bv wr => ∃ f, g = f + 1 ∧ f ≤ 4 * s.size + 3 ∧ Hid (RunR B lb s f wr) ∧ Hid (Below B w wr))
    case atStart => exact ⟨4 * s.size + 3, rfl, Nat.le_refl _, HR, HBB⟩
    case round =>
      clear HR HBB f1 c1
      obtain ⟨f, rfl, hf, HRR, HBR⟩ := hrel
      have hTr := HT.out.below HBR.out
      rcases HRR.out with ⟨nx, p, st, its, hz, hst, hp, hmu, hl, hb⟩ | ⟨q, st, rs, hz⟩
      · obtain ⟨cz, fz⟩ := hz.cell
        obtain ⟨f', rfl⟩ : ∃ f', f = f' + 1 := ⟨f - 1, by omega⟩
        have HLY := Lib.hid hz.ly
        have HST := Lib.hid (fun e w' (k : StPost B lb s its (lexS s nx p) wr e w') => run_step (B := B) (lb := lb) (f := f') (s := s) (nx := nx) (p := p) (its := its) (w := wr) (w' := w') (e := e) hp hmu hl hb k)
        have hil : its.length ≤ 900000 := by omega
        clear hz hl
        cases nx with
        | before =>
          have hst2 : st = p := by rcases hst with h | h; · cases h
                                   · exact h
          have HCC := Lib.hid (before_any B lb p st s its wr HLY.out (by omega) hp hil hTr hst2 _ rfl)
          have cz2 : wr.cell? ⟨lb, 1, none⟩ = some (.func (.func 101) #[] #[]) := cz
          clear cz hst hTr
          go_wp2_with (go_at_call 101; with_reducible refine HCC.out.mono ?_)
          intro e w1 hp1
          obtain ⟨V, rfl, hV, hR, ⟨q, st, rs, its', hy⟩, hbb⟩ := HST.out e w1 hp1
          dsimp only
          obtain ⟨f1, st1, c1⟩ := hy.froz
          have HR := Lib.hid hR
          have HBB : Hid (Below B w (w1.setCell ⟨lb, 1, none⟩ V)) := Lib.hid ((HBR.out.trans hbb).setCell (p := ⟨lb, 1, none⟩) hlo V)
          clear hp1 hR hy hbb HST HCC cz2
          rcases hV with rfl | ⟨fn, rfl⟩
          all_goals
            go_wp2
            go_roundg (f' + 1)
            case measure => omega
            case rel => exact ⟨f', rfl, by omega, HR, HBB⟩
        | comment =>
          have HCC := Lib.hid (comment_any B lb p st s its wr HLY.out (by omega) hp hil hTr _ rfl)
          have cz2 : wr.cell? ⟨lb, 1, none⟩ = some (.func (.func 120) #[] #[]) := cz
          clear cz hst hTr
          go_wp2_with (go_at_call 120; with_reducible refine HCC.out.mono ?_)
          intro e w1 hp1
          obtain ⟨V, rfl, hV, hR, ⟨q, st, rs, its', hy⟩, hbb⟩ := HST.out e w1 hp1
          dsimp only
          obtain ⟨f1, st1, c1⟩ := hy.froz
          have HR := Lib.hid hR
          have HBB : Hid (Below B w (w1.setCell ⟨lb, 1, none⟩ V)) := Lib.hid ((HBR.out.trans hbb).setCell (p := ⟨lb, 1, none⟩) hlo V)
          clear hp1 hR hy hbb HST HCC cz2
          rcases hV with rfl | ⟨fn, rfl⟩
          all_goals
            go_wp2
            go_roundg (f' + 1)
            case measure => omega
            case rel => exact ⟨f', rfl, by omega, HR, HBB⟩
        | key =>
          have hst2 : st = p := by rcases hst with h | h; · cases h
                                   · exact h
          have HCC := Lib.hid (key_any B lb p st s its wr HLY.out (by omega) hp hil hTr hst2 _ rfl)
          have cz2 : wr.cell? ⟨lb, 1, none⟩ = some (.func (.func 123) #[] #[]) := cz
          clear cz hst hTr
          go_wp2_with (go_at_call 123; with_reducible refine HCC.out.mono ?_)
          intro e w1 hp1
          obtain ⟨V, rfl, hV, hR, ⟨q, st, rs, its', hy⟩, hbb⟩ := HST.out e w1 hp1
          dsimp only
          obtain ⟨f1, st1, c1⟩ := hy.froz
          have HR := Lib.hid hR
          have HBB : Hid (Below B w (w1.setCell ⟨lb, 1, none⟩ V)) := Lib.hid ((HBR.out.trans hbb).setCell (p := ⟨lb, 1, none⟩) hlo V)
          clear hp1 hR hy hbb HST HCC cz2
          rcases hV with rfl | ⟨fn, rfl⟩
          all_goals
            go_wp2
            go_roundg (f' + 1)
            case measure => omega
            case rel => exact ⟨f', rfl, by omega, HR, HBB⟩
        | bval =>
          have hst2 : st = p := by rcases hst with h | h; · cases h
                                   · exact h
          have HCC := Lib.hid (bval_any B lb p st s its wr HLY.out (by omega) hp hil hTr _ rfl)
          have cz2 : wr.cell? ⟨lb, 1, none⟩ = some (.func (.func 136) #[] #[]) := cz
          clear cz hst hTr
          go_wp2_with (go_at_call 136; with_reducible refine HCC.out.mono ?_)
          intro e w1 hp1
          obtain ⟨V, rfl, hV, hR, ⟨q, st, rs, its', hy⟩, hbb⟩ := HST.out e w1 hp1
          dsimp only
          obtain ⟨f1, st1, c1⟩ := hy.froz
          have HR := Lib.hid hR
          have HBB : Hid (Below B w (w1.setCell ⟨lb, 1, none⟩ V)) := Lib.hid ((HBR.out.trans hbb).setCell (p := ⟨lb, 1, none⟩) hlo V)
          clear hp1 hR hy hbb HST HCC cz2
          rcases hV with rfl | ⟨fn, rfl⟩
          all_goals
            go_wp2
            go_roundg (f' + 1)
            case measure => omega
            case rel => exact ⟨f', rfl, by omega, HR, HBB⟩
        | val =>
          have hst2 : st = p := by rcases hst with h | h; · cases h
                                   · exact h
          have HCC := Lib.hid (val_any B lb p st s its wr HLY.out (by omega) hp hil hTr hst2 _ rfl)
          have cz2 : wr.cell? ⟨lb, 1, none⟩ = some (.func (.func 156) #[] #[]) := cz
          clear cz hst hTr
          go_wp2_with (go_at_call 156; with_reducible refine HCC.out.mono ?_)
          intro e w1 hp1
          obtain ⟨V, rfl, hV, hR, ⟨q, st, rs, its', hy⟩, hbb⟩ := HST.out e w1 hp1
          dsimp only
          obtain ⟨f1, st1, c1⟩ := hy.froz
          have HR := Lib.hid hR
          have HBB : Hid (Below B w (w1.setCell ⟨lb, 1, none⟩ V)) := Lib.hid ((HBR.out.trans hbb).setCell (p := ⟨lb, 1, none⟩) hlo V)
          clear hp1 hR hy hbb HST HCC cz2
          rcases hV with rfl | ⟨fn, rfl⟩
          all_goals
            go_wp2
            go_roundg (f' + 1)
            case measure => omega
            case rel => exact ⟨f', rfl, by omega, HR, HBB⟩
      · obtain ⟨cz, fz⟩ := hz.cell
        have HLY := Lib.hid hz.ly
        clear hz
        go_wp2
        go_end0
        exact ⟨rfl, ⟨_, _, _, HLY.out⟩, HBR.out⟩
end Go.Proofs.YtackciefmdiphaaGreatDoor
