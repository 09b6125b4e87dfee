import Derived.Test.Qxb6626009aRows
import Derived.WalkKit
import Derived.BigQuiet
import Derived.Deep.QuietTactic
import Derived.Deep.AppendLies
namespace Go.Proofs.Qxb6626009a
open Go.RowKit

theorem Try.info3 : (Try.prog.info? 3).map (fun i => (i.zero, i.size, i.bytes)) = some (some (.int .i64 0), 1, 8) := by kernel_rfl

/-- The table behind the pointer ⟨B, 0⟩: its two fields own the rows F and G. -/
structure LN (w : World) (B : Nat) (fv lv : Value) (F G : List Int) : Prop where
  blk : w.heap[B]? = some (.cells #[fv, lv] 30 (0, 0))
  of : w.ownsRow (B + 1) 3 1 fv F.length (F.map (Value.int .i64))
  ol : w.ownsRow (B + 1) 3 1 lv G.length (G.map (Value.int .i64))
  ne : fv.ownBlock = none ∨ fv.ownBlock ≠ lv.ownBlock

section
variable {w : World} {B : Nat} {fv lv : Value} {F G : List Int}
theorem LN.c0 (h : LN w B fv lv F G) : w.cell? ⟨B, 0, none⟩ = some fv := by
  rw [cell_of_row w B 0 _ _ _ h.blk]; rfl
theorem LN.c1 (h : LN w B fv lv F G) : w.cell? ⟨B, 1, none⟩ = some lv := by
  rw [cell_of_row w B 1 _ _ _ h.blk]; rfl
theorem LN.lt (h : LN w B fv lv F G) : B < w.heap.size := (Array.getElem?_eq_some_iff.1 h.blk).1
theorem LN.fr (h : LN w B fv lv F G) (o : Nat) : w.frozen? ⟨B, o, none⟩ = false := frozen_of_row w B o _ _ h.blk
theorem LN.drewN (h : LN w B fv lv F G) (n : Nat) : LN (w.drewN n) B fv lv F G := ⟨h.blk, h.of, h.ol, h.ne⟩
end

theorem cell_one_alloc (w : World) (v : Value) (t : TypeId) : ∀ j u, ([v] : List Value)[j]? = some u → (w.alloc (.cells #[v] t)).cell? ((⟨w.heap.size, 0, none⟩ : Addr).add j) = some u :=
  fun j u hj => World.news_of_block (heap_alloc_new w _) j u hj

theorem cell_one_at (w : World) (v : Value) (t : TypeId) (H : Nat) (hH : w.heap.size = H) : ∀ j u, ([v] : List Value)[j]? = some u → (w.alloc (.cells #[v] t)).cell? ((⟨H, 0, none⟩ : Addr).add j) = some u := by
  subst hH; exact cell_one_alloc w v t
theorem add0 (g j : Nat) : (⟨g, 0, none⟩ : Addr).add j = ⟨g, j, none⟩ := by unfold Addr.add; split <;> simp_all
theorem bdrewN {B : Nat} {a w : World} (h : Below B a w) (n : Nat) : Below B a (w.drewN n) := h.trans ⟨rfl, rfl, rfl, Nat.le_refl _, fun _ _ => rfl⟩

theorem setCell_blk (w : World) (B o : Nat) (v : Value) (cs : Array Value) (t : TypeId) (fr : Nat × Nat) (h : w.heap[B]? = some (.cells cs t fr)) : (w.setCell ⟨B, o, none⟩ v).heap[B]? = some (.cells (cs.setIfInBounds o v) t fr) := by
  obtain ⟨hlt, h'⟩ := Array.getElem?_eq_some_iff.1 h
  show (w.heap.modify B _)[B]? = _
  rw [Array.getElem?_eq_getElem (by simpa using hlt), Array.getElem_modify_self, h']
  rfl

/-- Behind 'l.firsts = append(l.firsts, i)'. -/
theorem LN.step0 {w w1 : World} {B g cap nq : Nat} {fv lv : Value} {F G : List Int} {i : Int} (h : LN w B fv lv F G)
    (hown : w1.ownsRow (B + 1) 3 1 (.slice (some ⟨g, 0, none⟩) (F.length + 1) cap) (F.length + 1) (F.map (Value.int .i64) ++ [.int .i64 i]))
    (hgrow : ((w.drewN nq).alloc (.cells #[.int .i64 i] 3)).grownBy w1 fv.ownBlock) (hat : fv.ownBlock = some g ∨ g = w.heap.size + 1) :
    w1.heap[B]? = some (.cells #[fv, lv] 30 (0, 0)) ∧ LN (w1.setCell ⟨B, 0, none⟩ (.slice (some ⟨g, 0, none⟩) (F.length + 1) cap)) B (.slice (some ⟨g, 0, none⟩) (F.length + 1) cap) lv (F ++ [i]) G ∧
      Below B w (w1.setCell ⟨B, 0, none⟩ (.slice (some ⟨g, 0, none⟩) (F.length + 1) cap)) := by
  have hlt := h.lt
  have hb1 : w1.heap[B]? = some (.cells #[fv, lv] 30 (0, 0)) := by
    rw [hgrow.block B (by simp; omega) (fun e => by have := (h.of.lt B e.symm).1; omega), Below.heap_alloc (w.drewN nq) _ _ hlt]
    exact h.blk
  have hol : w1.ownsRow (B + 1) 3 1 lv G.length (G.map (Value.int .i64)) :=
    World.ownsRow.kept (World.ownsRow.alloc (w := w.drewN nq) h.ol _) hgrow (by rcases h.ne with e | e; · rw [e]; cases lv.ownBlock <;> simp
                                                                                · exact .inr (fun e' => e e'.symm))
  refine ⟨hb1, ⟨?_, ?_, ownsRow_setCell_below hol (by simp) _, ?_⟩, ?_⟩
  · rw [setCell_blk _ _ _ _ _ _ _ hb1]; rfl
  · have := ownsRow_setCell_below hown (a := ⟨B, 0, none⟩) (by simp) (.slice (some ⟨g, 0, none⟩) (F.length + 1) cap)
    simpa using this
  · right
    intro e
    have e2 : lv.ownBlock = some g := e.symm
    rcases hat with hat | hat
    · rcases h.ne with h1 | h1
      · rw [h1] at hat; cases hat
      · exact h1 (hat.trans e2.symm)
    · have := (h.ol.lt g e2).2; omega
  · refine Below.setCell (p := ⟨B, _, none⟩) ?_ (Nat.le_refl B) _
    exact Below.grown ((bdrewN (Below.refl B w) nq).alloc (by simp; omega) _) hgrow (by simp; omega) (fun k e => by have := (h.of.lt k e).1; omega)

/-- Behind 'l.lines = append(l.lines, x)'. -/
theorem LN.step1 {w w1 : World} {B g cap : Nat} {fv lv : Value} {F G : List Int} {i : Int} (h : LN w B fv lv F G)
    (hown : w1.ownsRow (B + 1) 3 1 (.slice (some ⟨g, 0, none⟩) (G.length + 1) cap) (G.length + 1) (G.map (Value.int .i64) ++ [.int .i64 i]))
    (hgrow : (w.alloc (.cells #[.int .i64 i] 3)).grownBy w1 lv.ownBlock) (hat : lv.ownBlock = some g ∨ g = w.heap.size + 1) :
    w1.heap[B]? = some (.cells #[fv, lv] 30 (0, 0)) ∧ LN (w1.setCell ⟨B, 1, none⟩ (.slice (some ⟨g, 0, none⟩) (G.length + 1) cap)) B fv (.slice (some ⟨g, 0, none⟩) (G.length + 1) cap) F (G ++ [i]) ∧
      Below B w (w1.setCell ⟨B, 1, none⟩ (.slice (some ⟨g, 0, none⟩) (G.length + 1) cap)) := by
  have hlt := h.lt
  have hb1 : w1.heap[B]? = some (.cells #[fv, lv] 30 (0, 0)) := by
    rw [hgrow.block B (by simp; omega) (fun e => by have := (h.ol.lt B e.symm).1; omega), Below.heap_alloc _ _ _ hlt]
    exact h.blk
  have hof : w1.ownsRow (B + 1) 3 1 fv F.length (F.map (Value.int .i64)) := World.ownsRow.kept (h.of.alloc _) hgrow h.ne
  refine ⟨hb1, ⟨?_, ownsRow_setCell_below hof (by simp) _, ?_, ?_⟩, ?_⟩
  · rw [setCell_blk _ _ _ _ _ _ _ hb1]; rfl
  · have := ownsRow_setCell_below hown (a := ⟨B, 1, none⟩) (by simp) (.slice (some ⟨g, 0, none⟩) (G.length + 1) cap)
    simpa using this
  · rcases h.ne with h1 | h1
    · exact .inl h1
    · right
      intro e
      have e2 : fv.ownBlock = some g := e
      rcases hat with hat | hat
      · exact h1 (e2.trans hat.symm)
      · have := (h.of.lt g e2).2; omega
  · refine Below.setCell (p := ⟨B, _, none⟩) ?_ (Nat.le_refl B) _
    exact Below.grown ((Below.refl B w).alloc (by omega) _) hgrow (by simp; omega) (fun k e => by have := (h.ol.lt k e).1; omega)

set_option maxHeartbeats 400000 in
theorem add_none (B : Nat) (i x : Int) (w : World) (h : LN w B (.slice none 0 0) (.slice none 0 0) [] []) :
    Calls Try.prog 11 #[.pointer (some ⟨B, 0, none⟩), .int .i64 i, .int .i64 x] w fun e w' => e = .returned (.tuple #[]) ∧ ∃ fv' lv', LN w' B fv' lv' [i] [x] ∧ Below B w w' := by
  have c0 := h.c0
  have c1 := h.c1
  have hB := h.lt
  obtain ⟨i0, hi, hz0, hz1, hz2⟩ := info_parts Try.info3
  go_enter Try.func11, Try.ntmps11
  go_wp2_with fail
  go_quiet (fail)
  go_wp2_with (at_builtin; refine wpList_append_lies _ rfl (.tmp 41) (.tmp 43) 22 rfl (B + 1) 3 i0 (.int .i64 0) 1 8 Try.underlying22 hi hz0 hz1 hz2 rfl (by decide) _ 0 [] rfl (World.ownsRow_nil _ _ _ _) ⟨w.heap.size, 0, none⟩ 1 1 [.int .i64 i] rfl rfl ?c1 ?c2 ?c3 ?c4 ?c5 ?c6 (w.heap.size + 1) ?c8 ?_)
  case c1 => exact cell_one_alloc _ _ _
  case c2 => simp [Value.oneCell']
  case c3 => omega
  case c4 => decide
  case c5 => decide
  case c6 => simp; omega
  case c8 => simp
  intro g cap w1 hown hgrow hat hlt
  obtain ⟨hb1, h1, hbel⟩ := h.step0 hown hgrow hat
  have k0 : w1.cell? ⟨B, 0, none⟩ = some (.slice none 0 0) := by rw [cell_of_row _ _ _ _ _ _ hb1]; rfl
  have k1 : w1.cell? ⟨B, 1, none⟩ = some (.slice none 0 0) := by rw [cell_of_row _ _ _ _ _ _ hb1]; rfl
  have f0 : w1.frozen? ⟨B, 0, none⟩ = false := frozen_of_row w1 B 0 _ _ hb1
  clear c0 c1 hown hgrow hat hb1
  go_wp2_with (at_builtin; refine wpList_append_lies _ rfl (.tmp 51) (.tmp 53) 22 rfl (B + 1) 3 i0 (.int .i64 0) 1 8 Try.underlying22 hi hz0 hz1 hz2 rfl (by decide) _ 0 [] rfl (World.ownsRow_nil _ _ _ _) ⟨w1.heap.size, 0, none⟩ 1 1 [.int .i64 x] rfl rfl ?d1 ?d2 ?d3 ?d4 ?d5 ?d6 (w1.heap.size + 1) ?d8 ?_)
  case d1 => exact cell_one_at (w1.setCell ⟨B, 0, none⟩ _) _ _ _ (by simp)
  case d2 => simp [Value.oneCell']
  case d3 => omega
  case d4 => decide
  case d5 => decide
  case d6 => have := h1.lt; simp at this ⊢; omega
  case d8 => simp
  intro g2 cap2 w2 hown2 hgrow2 hat2 hlt2
  obtain ⟨hb2, h2, hbel2⟩ := h1.step1 hown2 hgrow2 (by simpa using hat2)
  have m0 : w2.cell? ⟨B, 1, none⟩ = some (.slice none 0 0) := by rw [cell_of_row _ _ _ _ _ _ hb2]; rfl
  have f2 : w2.frozen? ⟨B, 1, none⟩ = false := frozen_of_row w2 B 1 _ _ hb2
  clear k0 k1 f0 hown2 hgrow2 hat2 hb2 h1
  go_wp2
  go_end0
  exact ⟨rfl, _, _, h2, hbel.trans hbel2⟩

/-- The table's last entry. -/
theorem LN.last {w : World} {B gf cf gl cl n : Nat} {F G : List Int} (h : LN w B (.slice (some ⟨gf, 0, none⟩) (n + 1) cf) (.slice (some ⟨gl, 0, none⟩) (n + 1) cl) F G) (hF : F.length = n + 1) (hG : G.length = n + 1) :
    w.cell? ⟨gf, n, none⟩ = some (.int .i64 (F.getD n 0)) ∧ w.cell? ⟨gl, n, none⟩ = some (.int .i64 (G.getD n 0)) := by
  have e1 := h.of.cells (g := gf) rfl n (.int .i64 (F.getD n 0)) (by simp [hF])
  have e2 := h.ol.cells (g := gl) rfl n (.int .i64 (G.getD n 0)) (by simp [hG])
  constructor
  · rwa [add0] at e1
  · rwa [add0] at e2

set_option maxHeartbeats 400000 in
theorem add_skip (B gf cf gl cl n : Nat) (i x : Int) (F G : List Int) (w : World) (h : LN w B (.slice (some ⟨gf, 0, none⟩) (n + 1) cf) (.slice (some ⟨gl, 0, none⟩) (n + 1) cl) F G) (hF : F.length = n + 1) (hG : G.length = n + 1) (hn : n + 1 ≤ 1048576)
    (hc : wrap64 (x - i) = wrap64 (G.getD n 0 - F.getD n 0)) :
    Calls Try.prog 11 #[.pointer (some ⟨B, 0, none⟩), .int .i64 i, .int .i64 x] w fun e w' => e = .returned (.tuple #[]) ∧ LN w' B (.slice (some ⟨gf, 0, none⟩) (n + 1) cf) (.slice (some ⟨gl, 0, none⟩) (n + 1) cl) F G ∧ Below B w w' := by
  have c0 := h.c0
  have c1 := h.c1
  have hB := h.lt
  obtain ⟨l0, l1⟩ := h.last hF hG
  have hb : (wrap64 (x - i) == wrap64 (G.getD n 0 - F.getD n 0)) = true := beq_iff_eq.2 hc
  generalize F.getD n 0 = f at *
  generalize G.getD n 0 = g at *
  clear hc
  go_enter Try.func11, Try.ntmps11
  go_wp2_with fail
  go_quiet (fail)
  go_wp2
  exact bodyPost_ret (results_none (by rfl) _ _ _) rfl ⟨rfl, h.drewN _, bdrewN (Below.refl _ _) _⟩

set_option maxHeartbeats 800000 in
theorem add_more (B gf cf gl cl n : Nat) (i x : Int) (F G : List Int) (w : World) (h : LN w B (.slice (some ⟨gf, 0, none⟩) (n + 1) cf) (.slice (some ⟨gl, 0, none⟩) (n + 1) cl) F G) (hF : F.length = n + 1) (hG : G.length = n + 1) (hn : n + 1 ≤ 1048576)
    (hc : wrap64 (x - i) ≠ wrap64 (G.getD n 0 - F.getD n 0)) :
    Calls Try.prog 11 #[.pointer (some ⟨B, 0, none⟩), .int .i64 i, .int .i64 x] w fun e w' => e = .returned (.tuple #[]) ∧ ∃ fv' lv', LN w' B fv' lv' (F ++ [i]) (G ++ [x]) ∧ Below B w w' := by
  have c0 := h.c0
  have c1 := h.c1
  have hB := h.lt
  obtain ⟨l0, l1⟩ := h.last hF hG
  have hb : (wrap64 (x - i) == wrap64 (G.getD n 0 - F.getD n 0)) = false := beq_eq_false_iff_ne.2 hc
  generalize F.getD n 0 = f at *
  generalize G.getD n 0 = g at *
  clear hc
  have hof := h.of
  rw [hF] at hof
  obtain ⟨i0, hi, hz0, hz1, hz2⟩ := info_parts Try.info3
  have HF : Hid (F.length = n + 1) := hF
  have HG : Hid (G.length = n + 1) := hG
  clear hF hG
  go_enter Try.func11, Try.ntmps11
  go_wp2_with fail
  go_quiet (fail)
  go_wp2_with (at_builtin; refine wpList_append_lies _ rfl (.tmp 41) (.tmp 43) 22 rfl (B + 1) 3 i0 (.int .i64 0) 1 8 Try.underlying22 hi hz0 hz1 hz2 rfl (by decide) _ (n + 1) (F.map (Value.int .i64)) rfl ?c0 ⟨w.heap.size, 0, none⟩ 1 1 [.int .i64 i] rfl rfl ?c1 ?c2 ?c3 ?c4 ?c5 ?c6 (w.heap.size + 1) ?c8 ?_)
  case c0 => exact World.ownsRow.alloc (w := w.drewN _) hof _
  case c1 => exact cell_one_alloc _ _ _
  case c2 => simp [Value.oneCell']
  case c3 => omega
  case c4 => unfold maxLen; omega
  case c5 => omega
  case c6 => simp; omega
  case c8 => simp
  intro g1 cap w1 hown hgrow hat hlt
  have hF := HF.out
  have hG := HG.out
  obtain ⟨hb1, h1, hbel⟩ := h.step0 (by rw [hF]; exact hown) hgrow hat
  have k0 : w1.cell? ⟨B, 0, none⟩ = some (.slice (some ⟨gf, 0, none⟩) (n + 1) cf) := by rw [cell_of_row _ _ _ _ _ _ hb1]; rfl
  have k1 : w1.cell? ⟨B, 1, none⟩ = some (.slice (some ⟨gl, 0, none⟩) (n + 1) cl) := by rw [cell_of_row _ _ _ _ _ _ hb1]; rfl
  have f0 : w1.frozen? ⟨B, 0, none⟩ = false := frozen_of_row w1 B 0 _ _ hb1
  rw [hF] at h1 hbel
  have hol := h1.ol
  rw [hG] at hol
  clear c0 c1 hown hgrow hat hb1 hF hG hof l0 l1 hb
  go_wp2_with (at_builtin; refine wpList_append_lies _ rfl (.tmp 51) (.tmp 53) 22 rfl (B + 1) 3 i0 (.int .i64 0) 1 8 Try.underlying22 hi hz0 hz1 hz2 rfl (by decide) _ (n + 1) (G.map (Value.int .i64)) rfl ?d0 ⟨w1.heap.size, 0, none⟩ 1 1 [.int .i64 x] rfl rfl ?d1 ?d2 ?d3 ?d4 ?d5 ?d6 (w1.heap.size + 1) ?d8 ?_)
  case d0 => exact hol.alloc _
  case d1 => exact cell_one_at (w1.setCell ⟨B, 0, none⟩ _) _ _ _ (by simp)
  case d2 => simp [Value.oneCell']
  case d3 => omega
  case d4 => unfold maxLen; omega
  case d5 => omega
  case d6 => have := h1.lt; simp at this ⊢; omega
  case d8 => simp
  intro g2 cap2 w2 hown2 hgrow2 hat2 hlt2
  obtain ⟨hb2, h2, hbel2⟩ := h1.step1 (by rw [HG.out]; exact hown2) hgrow2 (by simpa using hat2)
  have m0 : w2.cell? ⟨B, 1, none⟩ = some (.slice (some ⟨gl, 0, none⟩) (n + 1) cl) := by rw [cell_of_row _ _ _ _ _ _ hb2]; rfl
  have f2 : w2.frozen? ⟨B, 1, none⟩ = false := frozen_of_row w2 B 1 _ _ hb2
  rw [HG.out] at h2 hbel2
  clear k0 k1 f0 hown2 hgrow2 hat2 hb2 h1
  go_wp2
  go_end0
  exact ⟨rfl, _, _, h2, hbel.trans hbel2⟩
end Go.Proofs.Qxb6626009a
