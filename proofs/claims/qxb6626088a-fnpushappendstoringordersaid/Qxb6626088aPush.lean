import Derived.Test.Qxb6626088aLine
import Derived.RegionTactic
namespace Go.Proofs.Qxb6626088a
open Go.RowKit

def setN (ps : List Place) (k : Nat) (x : Int) : List Place := if h : k < ps.length then ps.set k ((ps[k]).1, (ps[k]).2.1, x) else ps
def setP (ps : List Place) (k : Nat) (x : Int) : List Place := if h : k < ps.length then ps.set k ((ps[k]).1, x, (ps[k]).2.2) else ps
theorem setN_eq (ps : List Place) (k : Nat) (h : k < ps.length) (x : Int) : setN ps k x = ps.set k ((ps[k]).1, (ps[k]).2.1, x) := by
  unfold setN; rw [dif_pos h]
theorem setP_eq (ps : List Place) (k : Nat) (h : k < ps.length) (x : Int) : setP ps k x = ps.set k ((ps[k]).1, x, (ps[k]).2.2) := by
  unfold setP; rw [dif_pos h]
theorem setN_len (ps : List Place) (k : Nat) (x : Int) : (setN ps k x).length = ps.length := by unfold setN; split <;> simp
theorem setP_len (ps : List Place) (k : Nat) (x : Int) : (setP ps k x).length = ps.length := by unfold setP; split <;> simp

/-- The places behind a push onto a line that holds some. -/
def pushed (ps : List Place) (e : Value) (n j : Nat) : List Place := setP (setN (ps ++ [(e, (j : Int), 0)]) j n) 0 n

section
variable {w : World} {B L g n cap : Nat} {ps : List Place}
theorem Line.setNext (h : Line w B L (.slice (some ⟨g, 0, none⟩) n cap) ps) (k : Nat) (hk : k < ps.length) (x : Int) : Line (w.setCell ⟨g, k * 3 + 2, none⟩ (.int .i64 x)) B L (.slice (some ⟨g, 0, none⟩) n cap) (setN ps k x) :=
  h.set _ _ _ (setN_len _ _ _) (by rw [setN_eq _ _ hk]; exact flat_setNext ps k hk x)
theorem Line.setPrev (h : Line w B L (.slice (some ⟨g, 0, none⟩) n cap) ps) (k : Nat) (hk : k < ps.length) (x : Int) : Line (w.setCell ⟨g, k * 3 + 1, none⟩ (.int .i64 x)) B L (.slice (some ⟨g, 0, none⟩) n cap) (setP ps k x) :=
  h.set _ _ _ (setP_len _ _ _) (by rw [setP_eq _ _ hk]; exact flat_setPrev ps k hk x)
end

/-- Behind 'append(*l, p)' and the store. -/
theorem Line.grown {w w1 : World} {B L g cap : Nat} {lv e : Value} {a b : Int} {ps : List Place} {n : Nat} {P Q : Obj} (h : Line w B L lv ps) (hn : ps.length = n)
    (hown : w1.ownsRow B 61 3 (.slice (some ⟨g, 0, none⟩) (n + 1) cap) (n + 1) (flat ps ++ [e, .int .i64 a, .int .i64 b]))
    (hgrow : ((w.alloc P).alloc Q).drew.grownBy w1 lv.ownBlock) (hat : lv.ownBlock = some g ∨ g = w.heap.size + 2) :
    Line (w1.setCell ⟨L, 0, none⟩ (.slice (some ⟨g, 0, none⟩) (n + 1) cap)) B L (.slice (some ⟨g, 0, none⟩) (n + 1) cap) (ps ++ [(e, a, b)]) ∧
      (∀ k, k < w.heap.size + 2 → some k ≠ lv.ownBlock → w1.heap[k]? = ((w.alloc P).alloc Q).heap[k]?) ∧ w.heap.size + 2 ≤ w1.heap.size ∧ w1.heap[L]? = some (.cells #[lv] 43 (0, 0)) ∧ w1.os = w.os ∧ w1.tape = w.tape ∧ w1.output = w.output := by
  have hL := h.lt
  have hsz : w.heap.size + 2 ≤ w1.heap.size := by have := hgrow.size; simpa using this
  have hk : ∀ k, k < w.heap.size + 2 → some k ≠ lv.ownBlock → w1.heap[k]? = ((w.alloc P).alloc Q).heap[k]? := fun k hk hne => hgrow.block k (by simpa using hk) hne
  have hLne : some L ≠ lv.ownBlock := by
    intro e
    rcases h.own.2 with ⟨rfl, _⟩ | ⟨g0, c0, cur, rfl, _, hg, _⟩
    · cases e
    · simp [Value.ownBlock] at e
      have := h.blk
      rw [e, hg] at this
      cases this
  have hb1 : w1.heap[L]? = some (.cells #[lv] 43 (0, 0)) := by
    rw [hk L (by omega) hLne, Below.heap_alloc _ _ _ (by simp; omega), Below.heap_alloc _ _ _ hL]; exact h.blk
  have hgL : g ≠ L := by
    rcases hat with e | e
    · intro e2; exact hLne (by rw [e, e2])
    · omega
  refine ⟨⟨?_, ?_⟩, hk, hsz, hb1, hgrow.os, hgrow.tape, hgrow.output⟩
  · rw [setCell_blk _ _ _ _ _ _ _ hb1]; rfl
  · have hown2 : (w1.setCell ⟨L, 0, none⟩ (.slice (some ⟨g, 0, none⟩) (n + 1) cap)).ownsRow B 61 3 (.slice (some ⟨g, 0, none⟩) (n + 1) cap) (n + 1) (flat ps ++ [e, .int .i64 a, .int .i64 b]) :=
      World.ownsRow.kept hown (row := some L) ⟨rfl, rfl, rfl, by simp [World.setCell], fun k _ hne => Below.heap_setCell _ _ _ _ (fun e => hne (by rw [e]))⟩ (.inr (by simpa [Value.ownBlock] using hgL))
    rw [flat_snoc, List.length_append, hn]
    exact hown2

/-- All that is known behind the store of the longer line. -/
theorem Line.grown2 {w w1 : World} {B L g cap eb : Nat} {lv e : Value} {a b s : Int} {hh : Bool} {ps : List Place} {n : Nat} {Q : Obj} (h : Line w B L lv ps) (hn : ps.length = n) (hE : Ent w eb s hh)
    (hown : w1.ownsRow B 61 3 (.slice (some ⟨g, 0, none⟩) (n + 1) cap) (n + 1) (flat ps ++ [e, .int .i64 a, .int .i64 b]))
    (hgrow : ((w.alloc (.cells #[e, .int .i64 a, .int .i64 b] 61)).alloc Q).drew.grownBy w1 lv.ownBlock) (hat : lv.ownBlock = some g ∨ g = w.heap.size + 2) :
    let W := w1.setCell ⟨L, 0, none⟩ (.slice (some ⟨g, 0, none⟩) (n + 1) cap)
    Line W B L (.slice (some ⟨g, 0, none⟩) (n + 1) cap) (ps ++ [(e, a, b)]) ∧ W.heap[w.heap.size]? = some (.cells #[e, .int .i64 a, .int .i64 b] 61 (0, 0)) ∧ Ent W eb s hh ∧ Fr w W (fun k => some k = lv.ownBlock ∨ k = L) ∧ g ≠ w.heap.size ∧ w1.heap[L]? = some (.cells #[lv] 43 (0, 0)) := by
  obtain ⟨h1, hfar, hsz, hb1, ho, ht, hp⟩ := h.grown hn hown hgrow hat
  have hL := h.lt
  have he := hE.lt
  have hrow : ∀ k, lv.ownBlock = some k → k < w.heap.size ∧ ∃ cs : Array Value, w.heap[k]? = some (.cells cs 61 (0, 0)) := by
    intro k ek
    rcases h.own.2 with ⟨rfl, _⟩ | ⟨g0, c0, cur, rfl, _, hg, _⟩
    · cases ek
    · simp [Value.ownBlock] at ek
      subst ek
      exact ⟨(Array.getElem?_eq_some_iff.1 hg).1, _, hg⟩
  have hne : some eb ≠ lv.ownBlock := by
    intro e2
    obtain ⟨_, cs, hc⟩ := hrow eb e2.symm
    obtain ⟨cs', hc', _⟩ := hE
    rw [hc] at hc'
    cases hc'
  have hneL : eb ≠ L := by
    intro e2
    obtain ⟨cs', hc', _⟩ := hE
    rw [e2, h.blk] at hc'
    cases hc'
  have hneH : some w.heap.size ≠ lv.ownBlock := by
    intro e2
    have := (hrow _ e2.symm).1
    omega
  refine ⟨h1, ?_, ?_, ⟨by show w1.os = _; exact ho, by show w1.tape = _; exact ht, by show w1.output = _; exact hp, by simp [World.setCell]; omega, ?_⟩, ?_, hb1⟩
  · rw [Below.heap_setCell _ _ _ _ (by simp; omega), hfar _ (by omega) hneH, Below.heap_alloc _ _ _ (by simp)]
    exact heap_alloc_new w _
  · refine hE.of_block ?_
    rw [Below.heap_setCell _ _ _ _ (by simpa using hneL), hfar _ (by omega) hne, Below.heap_alloc _ _ _ (by simp; omega), Below.heap_alloc _ _ _ he]
  · intro k hk hn2
    rw [Below.heap_setCell _ _ _ _ (fun e2 => hn2 (.inr e2)), hfar _ (by omega) (fun e2 => hn2 (.inl e2)), Below.heap_alloc _ _ _ (by simp; omega), Below.heap_alloc _ _ _ hk]
  · rcases hat with e2 | e2
    · have := (hrow _ e2).1
      omega
    · omega
theorem Line.drew {w : World} {B L : Nat} {lv : Value} {ps : List Place} (h : Line w B L lv ps) : Line w.drew B L lv ps := ⟨h.blk, h.own.drew⟩

/-- The world while a push goes on behind its append. -/
structure Mid (w W : World) (B L H g n cap eb : Nat) (ps : List Place) (e : Value) (a b s : Int) (hh : Bool) (row : Option Nat) : Prop where
  line : Line W B L (.slice (some ⟨g, 0, none⟩) n cap) ps
  pb : W.heap[H]? = some (.cells #[e, .int .i64 a, .int .i64 b] 61 (0, 0))
  ent : Ent W eb s hh
  fr : Fr w W (fun k => some k = row ∨ k = L)
  at1 : some g = row ∨ w.heap.size ≤ g
  at2 : g ≠ H

section
variable {w W : World} {B L H g n cap eb : Nat} {ps : List Place} {e : Value} {a b s : Int} {hh : Bool} {row : Option Nat}
theorem Mid.ne (h : Mid w W B L H g n cap eb ps e a b s hh row) : eb ≠ g ∧ eb ≠ L := by
  obtain ⟨cs', hc', _⟩ := h.ent
  obtain ⟨_, _, _, cur, hg, _⟩ := h.line.row
  refine ⟨fun e2 => ?_, fun e2 => ?_⟩
  · rw [e2, hg] at hc'; cases hc'
  · rw [e2, h.line.blk] at hc'; cases hc'
theorem Mid.set (h : Mid w W B L H g n cap eb ps e a b s hh row) {ps' : List Place} (o : Nat) (v : Value) (hl : Line (W.setCell ⟨g, o, none⟩ v) B L (.slice (some ⟨g, 0, none⟩) n cap) ps') : Mid w (W.setCell ⟨g, o, none⟩ v).drew B L H g n cap eb ps' e a b s hh row := by
  refine ⟨hl.drew, (Below.heap_setCell _ _ _ _ (by simpa using Ne.symm h.at2)).trans h.pb, h.ent.of_block (Below.heap_setCell _ _ _ _ (by simpa using h.ne.1)), ⟨h.fr.os, h.fr.tape, h.fr.output, by show w.heap.size ≤ (W.setCell _ _).heap.size; simpa [World.setCell] using h.fr.size, fun k hk hn => (Below.heap_setCell _ _ _ _ ?_).trans (h.fr.block k hk hn)⟩, h.at1, h.at2⟩
  intro e2
  rcases h.at1 with e3 | e3
  · exact hn (.inl (by rw [e2]; exact e3))
  · simp at e2; omega
theorem Mid.fin (h : Mid w W B L H g n cap eb ps e a b s hh row) (s' : Int) : let W' := (W.setCell ⟨eb, 43, none⟩ (.int .i64 s')).setCell ⟨eb, 44, none⟩ (.bool false)
    Line W' B L (.slice (some ⟨g, 0, none⟩) n cap) ps ∧ Ent W' eb s' false ∧ Fr w W' (fun k => some k = row ∨ k = L ∨ k = eb) := by
  have hf : ∀ k, k ≠ eb → ((W.setCell ⟨eb, 43, none⟩ (.int .i64 s')).setCell ⟨eb, 44, none⟩ (.bool false)).heap[k]? = W.heap[k]? := fun k hk => (Below.heap_setCell _ _ _ _ hk).trans (Below.heap_setCell _ _ _ _ hk)
  refine ⟨⟨(hf _ (Ne.symm h.ne.2)).trans h.line.blk, ?_⟩, h.ent.set s' false, ⟨h.fr.os, h.fr.tape, h.fr.output, by simpa [World.setCell] using h.fr.size, fun k hk hn => (hf k (fun e2 => hn (.inr (.inr e2)))).trans (h.fr.block k hk (fun e2 => hn (e2.elim .inl (fun e3 => .inr (.inl e3)))))⟩⟩
  exact World.ownsRow.kept h.line.own (row := some eb) ⟨rfl, rfl, rfl, by simp [World.setCell], fun k _ hne => hf k (fun e2 => hne (by rw [e2]))⟩ (.inr (by simpa [Value.ownBlock] using Ne.symm h.ne.1))
end

theorem three_cells (w : World) (a b c : Value) (t : TypeId) (H : Nat) (hH : w.heap.size = H) : ∀ j u, ([a, b, c] : List Value)[j]? = some u → (w.alloc (.cells #[a, b, c] t)).drew.cell? ((⟨H, 0, none⟩ : Addr).add j) = some u := by
  subst hH
  exact fun j u hj => World.news_of_block (w := w.alloc (.cells #[a, b, c] t)) (heap_alloc_new w _) j u hj

set_option maxHeartbeats 1600000 in
set_option maxRecDepth 100000 in
theorem push_more (B L g n cap eb j0 : Nat) (ps : List Place) (s : Int) (hh : Bool) (w : World) (hL : Line w B L (.slice (some ⟨g, 0, none⟩) n cap) ps) (hn0 : 0 < n) (hn1 : n ≤ 1048576) (hE : Ent w eb s hh) (hps : 0 < ps.length) (hj : (ps[0]).2.1 = (j0 : Int)) (hj0 : j0 < n) (hB : B ≤ w.heap.size) :
    Calls Try.prog 16 #[.pointer (some ⟨L, 0, none⟩), .pointer (some ⟨eb, 0, none⟩)] w fun e w' => e = .returned (.tuple #[]) ∧ ∃ g' cap', Line w' B L (.slice (some ⟨g', 0, none⟩) (n + 1) cap') (pushed ps (.pointer (some ⟨eb, 0, none⟩)) n j0) ∧ Ent w' eb n false ∧ (g' = g ∨ w.heap.size ≤ g') ∧ Fr w w' (fun k => k = g ∨ k = L ∨ k = eb) := by
  obtain ⟨i0, hi, hz0, hz1, hz2⟩ := info_parts Try.info61
  have hne := hL.ne
  have hlen := hL.row.1
  have hglt := hL.glt
  have hLlt := hL.lt
  have helt := hE.lt
  have cL := hL.cell
  have c01 := (hL.at 0 hps).2.1
  rw [hj] at c01
  simp only [Nat.zero_mul, Nat.zero_add] at c01
  have dL : ∀ o, (w.alloc o).cell? ⟨L, 0, none⟩ = some (.slice (some ⟨g, 0, none⟩) n cap) := fun o => (World.cell?_of_block (Below.heap_alloc _ _ _ hLlt)).trans cL
  have d01 : ∀ o, (w.alloc o).cell? ⟨g, 1, none⟩ = some (.int .i64 (j0 : Int)) := fun o => (World.cell?_of_block (Below.heap_alloc _ _ _ hglt)).trans c01
  have fL : ∀ o, (w.alloc o).frozen? ⟨L, 0, none⟩ = false := fun o => (World.frozen?_of_block (Below.heap_alloc _ _ _ hLlt)).trans hL.free
  have hown := hL.own
  rw [hL.row.1] at hown
  have HE : Hid (Ent w eb s hh) := hE
  have HL : Hid (Line w B L (.slice (some ⟨g, 0, none⟩) n cap) ps) := hL
  have bj : (j0 : Int) < (n : Int) + 1 := by omega
  clear c01 hj hE
  go_enter Try.func16, Try.ntmps16
  go_wp2_with fail
  refine wp_region_any (by kernel_rfl) ?_
  change wpAny _ _ _ _ _ _ _ (World.drew (w.alloc (.cells #[.pointer (some ⟨eb, 0, none⟩), .int .i64 (j0 : Int), .int .i64 0] 61)))
  refine wpAny_take (i := 0) (v := .pointer (some ⟨L, 0, none⟩)) rfl (by kernel_rfl) (by kernel_rfl) (by kernel_rfl) (fun _ _ _ h => h) (Or.inl ⟨by rfl, by intro w; go_simp⟩) ?_
  refine wpAny_take (i := 1) (v := .pointer (some ⟨L, 0, none⟩)) rfl (by kernel_rfl) (by kernel_rfl) (by kernel_rfl) (fun _ _ _ h => h) (Or.inl ⟨by rfl, by intro w; go_simp⟩) ?_
  refine wpAny_take (i := 2) (v := .pointer (some ⟨L, 0, none⟩)) rfl (by kernel_rfl) (by kernel_rfl) (by kernel_rfl) (fun _ _ _ h => h) (Or.inl ⟨by rfl, by intro w; go_simp⟩) ?_
  try simp only [Act.put, List.setIfInBounds_toArray]
  refine wpAny_ready (rs := [3, 4]) (by kernel_rfl) (by simp) ?_
  refine AllReady.cons rfl (fun K hK => ?_) ?_
  · (go_simp; refine hK _ _ ?_; clear hK K; try simp only [Act.put, List.setIfInBounds_toArray, List.set_cons_zero, List.set_cons_succ])
    refine wpAny_ready (rs := [4]) (by kernel_rfl) (by simp) ?_
    refine AllReady.cons rfl (fun K hK => ?_) ?_
    · (go_simp; refine hK _ _ ?_; clear hK K; try simp only [Act.put, List.setIfInBounds_toArray, List.set_cons_zero, List.set_cons_succ])
      refine wpAny_ready (rs := [5]) (by kernel_rfl) (by simp) ?_
      refine AllReady.cons rfl (fun K hK => ?_) ?_
      · (go_simp; refine hK _ _ ?_; clear hK K; try simp only [Act.put, List.setIfInBounds_toArray, List.set_cons_zero, List.set_cons_succ])
        refine wpAny_ready (rs := [6]) (by kernel_rfl) (by simp) ?_
        refine AllReady.cons rfl (fun K hK => ?_) AllReady.nil
        refine step_append_lies _ (by rfl) (.tmp 27) (.tmp 29) 43 (by rfl) B 61 i0 (.agg #[.pointer none, .int .i64 0, .int .i64 0]) 3 24 Try.underlying43 hi hz0 hz1 hz2 (by rfl) (by decide) (.slice (some ⟨g, 0, none⟩) n cap) n (flat ps) (by rfl) (((hown.alloc _).alloc _).drew) ⟨w.heap.size + 1, 0, none⟩ 1 1 [.pointer (some ⟨eb, 0, none⟩), .int .i64 (j0 : Int), .int .i64 0] (by rfl) (by rfl) (three_cells _ _ _ _ _ _ (by simp)) (by simp [Value.oneCell']) (by decide) (by unfold maxLen; omega) (by omega) (by simp; omega) (w.heap.size + 2) (by simp) ?_
        intro gg cap2 w1 hown1 hgrow hat hlt
        refine hK _ _ ?_; clear hK K; try simp only [Act.put, List.setIfInBounds_toArray]
        obtain ⟨LW, pW, EW, FW, hgH, hb1⟩ := hL.grown2 hlen HE.out hown1 hgrow hat
        have M4 := Mid.mk LW pW EW FW (hat.imp Eq.symm (fun e2 => by omega)) hgH
        clear LW pW EW FW hgH
        have cL1 : w1.cell? ⟨L, 0, none⟩ = some (.slice (some ⟨g, 0, none⟩) n cap) := by rw [cell_of_row _ _ _ _ _ _ hb1]; rfl
        have fL1 : w1.frozen? ⟨L, 0, none⟩ = false := frozen_of_row w1 _ _ _ _ hb1
        refine wpAny_ready (rs := [7]) (by kernel_rfl) (by simp) ?_
        refine AllReady.cons rfl (fun K hK => ?_) ?_
        · (go_simp; refine hK _ _ ?_; clear hK K; try simp only [Act.put, List.setIfInBounds_toArray, List.set_cons_zero, List.set_cons_succ])
          refine wpAny_ready (rs := [8]) (by kernel_rfl) (by simp) ?_
          refine AllReady.cons rfl (fun K hK => ?_) ?_
          · (go_simp; refine hK _ _ ?_; clear hK K; try simp only [Act.put, List.setIfInBounds_toArray, List.set_cons_zero, List.set_cons_succ])
            refine wpAny_done (by kernel_rfl) ?_ _
            clear cL1 fL1 hb1 hown1 hgrow hat hlt hown dL fL
            generalize w1.setCell ⟨L, 0, none⟩ (.slice (some ⟨gg, 0, none⟩) (n + 1) cap2) = W at *
            have hgL := M4.line.ne
            have hgH := M4.at2
            have hl1 : (j0 : Nat) < (ps ++ [((.pointer (some ⟨eb, 0, none⟩) : Value), ((j0 : Int) : Int), (0 : Int))]).length := by first | (rw [List.length_append, hlen]; simp; omega) | simp
            have hl0 : 0 < (setN (ps ++ [((.pointer (some ⟨eb, 0, none⟩) : Value), ((j0 : Int) : Int), (0 : Int))]) j0 (n : Nat)).length := by rw [setN_len]; simp
            have wL4 := M4.line.cell
            have wa4 : W.cell? ⟨w.heap.size, 1, none⟩ = some (.int .i64 (j0 : Int)) := by rw [cell_of_row _ _ _ _ _ _ M4.pb]; rfl
            have wb4 : W.cell? ⟨w.heap.size, 2, none⟩ = some (.int .i64 0) := by rw [cell_of_row _ _ _ _ _ _ M4.pb]; rfl
            have tg4 := (M4.line.at _ hl1).2.2
            have tf4 := M4.line.gfree
            generalize ((ps ++ [((.pointer (some ⟨eb, 0, none⟩) : Value), ((j0 : Int) : Int), (0 : Int))])[j0]).2.2 = old4 at tg4
            try simp only [Nat.zero_mul, Nat.zero_add] at tg4
            go_wp2_with fail
            go_region_held3 (fun v : World => v.cell? ⟨L, 0, none⟩ = some (.slice (some ⟨gg, 0, none⟩) (n + 1) cap2) ∧ v.cell? ⟨w.heap.size, 1, none⟩ = some (.int .i64 (j0 : Int)) ∧ v.cell? ⟨w.heap.size, 2, none⟩ = some (.int .i64 0))
              (first | go_keep)
              (fail)
            have M5 := M4.set _ _ (M4.line.setNext _ hl1 (n : Nat))
            clear M4 wL4 wa4 wb4 tg4 tf4
            skip
            generalize (W.setCell ⟨gg, j0 * 3 + 2, none⟩ (.int .i64 (n : Nat))).drew = V at *
            have wL5 := M5.line.cell
            have wa5 : V.cell? ⟨w.heap.size, 1, none⟩ = some (.int .i64 (j0 : Int)) := by rw [cell_of_row _ _ _ _ _ _ M5.pb]; rfl
            have wb5 : V.cell? ⟨w.heap.size, 2, none⟩ = some (.int .i64 0) := by rw [cell_of_row _ _ _ _ _ _ M5.pb]; rfl
            have tg5 := (M5.line.at _ hl0).2.1
            have tf5 := M5.line.gfree
            generalize ((setN (ps ++ [((.pointer (some ⟨eb, 0, none⟩) : Value), ((j0 : Int) : Int), (0 : Int))]) j0 (n : Nat))[0]).2.1 = old5 at tg5
            try simp only [Nat.zero_mul, Nat.zero_add] at tg5
            go_wp2_with fail
            go_region_held3 (fun v : World => v.cell? ⟨L, 0, none⟩ = some (.slice (some ⟨gg, 0, none⟩) (n + 1) cap2) ∧ v.cell? ⟨w.heap.size, 1, none⟩ = some (.int .i64 (j0 : Int)) ∧ v.cell? ⟨w.heap.size, 2, none⟩ = some (.int .i64 0))
              (first | go_keep)
              (fail)
            have M6 := M5.set _ _ (M5.line.setPrev _ hl0 (n : Nat))
            clear M5 wL5 wa5 wb5 tg5 tf5
            simp only [Nat.zero_mul, Nat.zero_add] at M6
            generalize (V.setCell ⟨gg, 1, none⟩ (.int .i64 (n : Nat))).drew = U at *
            obtain ⟨u1, u2, u3, u4⟩ := M6.ent.cells
            obtain ⟨f1, f2, f3⟩ := M6.fin (n : Nat)
            go_wp2_with fail
            go_end0
            exact ⟨rfl, gg, cap2, f1, f2, M6.at1.imp (fun e2 => by simpa [Value.ownBlock] using e2) id, f3.mono (fun k _ h => h.imp (fun e2 => by simpa [Value.ownBlock] using e2) id)⟩
          exact AllReady.nil
        exact AllReady.nil
      exact AllReady.nil
    exact AllReady.nil
  refine AllReady.cons rfl (fun K hK => ?_) ?_
  · (go_simp; refine hK _ _ ?_; clear hK K; try simp only [Act.put, List.setIfInBounds_toArray, List.set_cons_zero, List.set_cons_succ])
    refine wpAny_ready (rs := [3, 5]) (by kernel_rfl) (by simp) ?_
    refine AllReady.cons rfl (fun K hK => ?_) ?_
    · (go_simp; refine hK _ _ ?_; clear hK K; try simp only [Act.put, List.setIfInBounds_toArray, List.set_cons_zero, List.set_cons_succ])
      refine wpAny_ready (rs := [5]) (by kernel_rfl) (by simp) ?_
      refine AllReady.cons rfl (fun K hK => ?_) ?_
      · (go_simp; refine hK _ _ ?_; clear hK K; try simp only [Act.put, List.setIfInBounds_toArray, List.set_cons_zero, List.set_cons_succ])
        refine wpAny_ready (rs := [6]) (by kernel_rfl) (by simp) ?_
        refine AllReady.cons rfl (fun K hK => ?_) AllReady.nil
        refine step_append_lies _ (by rfl) (.tmp 27) (.tmp 29) 43 (by rfl) B 61 i0 (.agg #[.pointer none, .int .i64 0, .int .i64 0]) 3 24 Try.underlying43 hi hz0 hz1 hz2 (by rfl) (by decide) (.slice (some ⟨g, 0, none⟩) n cap) n (flat ps) (by rfl) (((hown.alloc _).alloc _).drew) ⟨w.heap.size + 1, 0, none⟩ 1 1 [.pointer (some ⟨eb, 0, none⟩), .int .i64 (j0 : Int), .int .i64 0] (by rfl) (by rfl) (three_cells _ _ _ _ _ _ (by simp)) (by simp [Value.oneCell']) (by decide) (by unfold maxLen; omega) (by omega) (by simp; omega) (w.heap.size + 2) (by simp) ?_
        intro gg cap2 w1 hown1 hgrow hat hlt
        refine hK _ _ ?_; clear hK K; try simp only [Act.put, List.setIfInBounds_toArray]
        obtain ⟨LW, pW, EW, FW, hgH, hb1⟩ := hL.grown2 hlen HE.out hown1 hgrow hat
        have M4 := Mid.mk LW pW EW FW (hat.imp Eq.symm (fun e2 => by omega)) hgH
        clear LW pW EW FW hgH
        have cL1 : w1.cell? ⟨L, 0, none⟩ = some (.slice (some ⟨g, 0, none⟩) n cap) := by rw [cell_of_row _ _ _ _ _ _ hb1]; rfl
        have fL1 : w1.frozen? ⟨L, 0, none⟩ = false := frozen_of_row w1 _ _ _ _ hb1
        refine wpAny_ready (rs := [7]) (by kernel_rfl) (by simp) ?_
        refine AllReady.cons rfl (fun K hK => ?_) ?_
        · (go_simp; refine hK _ _ ?_; clear hK K; try simp only [Act.put, List.setIfInBounds_toArray, List.set_cons_zero, List.set_cons_succ])
          refine wpAny_ready (rs := [8]) (by kernel_rfl) (by simp) ?_
          refine AllReady.cons rfl (fun K hK => ?_) ?_
          · (go_simp; refine hK _ _ ?_; clear hK K; try simp only [Act.put, List.setIfInBounds_toArray, List.set_cons_zero, List.set_cons_succ])
            refine wpAny_done (by kernel_rfl) ?_ _
            clear cL1 fL1 hb1 hown1 hgrow hat hlt hown dL fL
            generalize w1.setCell ⟨L, 0, none⟩ (.slice (some ⟨gg, 0, none⟩) (n + 1) cap2) = W at *
            have hgL := M4.line.ne
            have hgH := M4.at2
            have hl1 : (j0 : Nat) < (ps ++ [((.pointer (some ⟨eb, 0, none⟩) : Value), ((j0 : Int) : Int), (0 : Int))]).length := by first | (rw [List.length_append, hlen]; simp; omega) | simp
            have hl0 : 0 < (setN (ps ++ [((.pointer (some ⟨eb, 0, none⟩) : Value), ((j0 : Int) : Int), (0 : Int))]) j0 (n : Nat)).length := by rw [setN_len]; simp
            have wL4 := M4.line.cell
            have wa4 : W.cell? ⟨w.heap.size, 1, none⟩ = some (.int .i64 (j0 : Int)) := by rw [cell_of_row _ _ _ _ _ _ M4.pb]; rfl
            have wb4 : W.cell? ⟨w.heap.size, 2, none⟩ = some (.int .i64 0) := by rw [cell_of_row _ _ _ _ _ _ M4.pb]; rfl
            have tg4 := (M4.line.at _ hl1).2.2
            have tf4 := M4.line.gfree
            generalize ((ps ++ [((.pointer (some ⟨eb, 0, none⟩) : Value), ((j0 : Int) : Int), (0 : Int))])[j0]).2.2 = old4 at tg4
            try simp only [Nat.zero_mul, Nat.zero_add] at tg4
            go_wp2_with fail
            go_region_held3 (fun v : World => v.cell? ⟨L, 0, none⟩ = some (.slice (some ⟨gg, 0, none⟩) (n + 1) cap2) ∧ v.cell? ⟨w.heap.size, 1, none⟩ = some (.int .i64 (j0 : Int)) ∧ v.cell? ⟨w.heap.size, 2, none⟩ = some (.int .i64 0))
              (first | go_keep)
              (fail)
            have M5 := M4.set _ _ (M4.line.setNext _ hl1 (n : Nat))
            clear M4 wL4 wa4 wb4 tg4 tf4
            skip
            generalize (W.setCell ⟨gg, j0 * 3 + 2, none⟩ (.int .i64 (n : Nat))).drew = V at *
            have wL5 := M5.line.cell
            have wa5 : V.cell? ⟨w.heap.size, 1, none⟩ = some (.int .i64 (j0 : Int)) := by rw [cell_of_row _ _ _ _ _ _ M5.pb]; rfl
            have wb5 : V.cell? ⟨w.heap.size, 2, none⟩ = some (.int .i64 0) := by rw [cell_of_row _ _ _ _ _ _ M5.pb]; rfl
            have tg5 := (M5.line.at _ hl0).2.1
            have tf5 := M5.line.gfree
            generalize ((setN (ps ++ [((.pointer (some ⟨eb, 0, none⟩) : Value), ((j0 : Int) : Int), (0 : Int))]) j0 (n : Nat))[0]).2.1 = old5 at tg5
            try simp only [Nat.zero_mul, Nat.zero_add] at tg5
            go_wp2_with fail
            go_region_held3 (fun v : World => v.cell? ⟨L, 0, none⟩ = some (.slice (some ⟨gg, 0, none⟩) (n + 1) cap2) ∧ v.cell? ⟨w.heap.size, 1, none⟩ = some (.int .i64 (j0 : Int)) ∧ v.cell? ⟨w.heap.size, 2, none⟩ = some (.int .i64 0))
              (first | go_keep)
              (fail)
            have M6 := M5.set _ _ (M5.line.setPrev _ hl0 (n : Nat))
            clear M5 wL5 wa5 wb5 tg5 tf5
            simp only [Nat.zero_mul, Nat.zero_add] at M6
            generalize (V.setCell ⟨gg, 1, none⟩ (.int .i64 (n : Nat))).drew = U at *
            obtain ⟨u1, u2, u3, u4⟩ := M6.ent.cells
            obtain ⟨f1, f2, f3⟩ := M6.fin (n : Nat)
            go_wp2_with fail
            go_end0
            exact ⟨rfl, gg, cap2, f1, f2, M6.at1.imp (fun e2 => by simpa [Value.ownBlock] using e2) id, f3.mono (fun k _ h => h.imp (fun e2 => by simpa [Value.ownBlock] using e2) id)⟩
          exact AllReady.nil
        exact AllReady.nil
      exact AllReady.nil
    refine AllReady.cons rfl (fun K hK => ?_) ?_
    · (go_simp; refine hK _ _ ?_; clear hK K; try simp only [Act.put, List.setIfInBounds_toArray, List.set_cons_zero, List.set_cons_succ])
      refine wpAny_ready (rs := [3]) (by kernel_rfl) (by simp) ?_
      refine AllReady.cons rfl (fun K hK => ?_) ?_
      · (go_simp; refine hK _ _ ?_; clear hK K; try simp only [Act.put, List.setIfInBounds_toArray, List.set_cons_zero, List.set_cons_succ])
        refine wpAny_ready (rs := [6]) (by kernel_rfl) (by simp) ?_
        refine AllReady.cons rfl (fun K hK => ?_) AllReady.nil
        refine step_append_lies _ (by rfl) (.tmp 27) (.tmp 29) 43 (by rfl) B 61 i0 (.agg #[.pointer none, .int .i64 0, .int .i64 0]) 3 24 Try.underlying43 hi hz0 hz1 hz2 (by rfl) (by decide) (.slice (some ⟨g, 0, none⟩) n cap) n (flat ps) (by rfl) (((hown.alloc _).alloc _).drew) ⟨w.heap.size + 1, 0, none⟩ 1 1 [.pointer (some ⟨eb, 0, none⟩), .int .i64 (j0 : Int), .int .i64 0] (by rfl) (by rfl) (three_cells _ _ _ _ _ _ (by simp)) (by simp [Value.oneCell']) (by decide) (by unfold maxLen; omega) (by omega) (by simp; omega) (w.heap.size + 2) (by simp) ?_
        intro gg cap2 w1 hown1 hgrow hat hlt
        refine hK _ _ ?_; clear hK K; try simp only [Act.put, List.setIfInBounds_toArray]
        obtain ⟨LW, pW, EW, FW, hgH, hb1⟩ := hL.grown2 hlen HE.out hown1 hgrow hat
        have M4 := Mid.mk LW pW EW FW (hat.imp Eq.symm (fun e2 => by omega)) hgH
        clear LW pW EW FW hgH
        have cL1 : w1.cell? ⟨L, 0, none⟩ = some (.slice (some ⟨g, 0, none⟩) n cap) := by rw [cell_of_row _ _ _ _ _ _ hb1]; rfl
        have fL1 : w1.frozen? ⟨L, 0, none⟩ = false := frozen_of_row w1 _ _ _ _ hb1
        refine wpAny_ready (rs := [7]) (by kernel_rfl) (by simp) ?_
        refine AllReady.cons rfl (fun K hK => ?_) ?_
        · (go_simp; refine hK _ _ ?_; clear hK K; try simp only [Act.put, List.setIfInBounds_toArray, List.set_cons_zero, List.set_cons_succ])
          refine wpAny_ready (rs := [8]) (by kernel_rfl) (by simp) ?_
          refine AllReady.cons rfl (fun K hK => ?_) ?_
          · (go_simp; refine hK _ _ ?_; clear hK K; try simp only [Act.put, List.setIfInBounds_toArray, List.set_cons_zero, List.set_cons_succ])
            refine wpAny_done (by kernel_rfl) ?_ _
            clear cL1 fL1 hb1 hown1 hgrow hat hlt hown dL fL
            generalize w1.setCell ⟨L, 0, none⟩ (.slice (some ⟨gg, 0, none⟩) (n + 1) cap2) = W at *
            have hgL := M4.line.ne
            have hgH := M4.at2
            have hl1 : (j0 : Nat) < (ps ++ [((.pointer (some ⟨eb, 0, none⟩) : Value), ((j0 : Int) : Int), (0 : Int))]).length := by first | (rw [List.length_append, hlen]; simp; omega) | simp
            have hl0 : 0 < (setN (ps ++ [((.pointer (some ⟨eb, 0, none⟩) : Value), ((j0 : Int) : Int), (0 : Int))]) j0 (n : Nat)).length := by rw [setN_len]; simp
            have wL4 := M4.line.cell
            have wa4 : W.cell? ⟨w.heap.size, 1, none⟩ = some (.int .i64 (j0 : Int)) := by rw [cell_of_row _ _ _ _ _ _ M4.pb]; rfl
            have wb4 : W.cell? ⟨w.heap.size, 2, none⟩ = some (.int .i64 0) := by rw [cell_of_row _ _ _ _ _ _ M4.pb]; rfl
            have tg4 := (M4.line.at _ hl1).2.2
            have tf4 := M4.line.gfree
            generalize ((ps ++ [((.pointer (some ⟨eb, 0, none⟩) : Value), ((j0 : Int) : Int), (0 : Int))])[j0]).2.2 = old4 at tg4
            try simp only [Nat.zero_mul, Nat.zero_add] at tg4
            go_wp2_with fail
            go_region_held3 (fun v : World => v.cell? ⟨L, 0, none⟩ = some (.slice (some ⟨gg, 0, none⟩) (n + 1) cap2) ∧ v.cell? ⟨w.heap.size, 1, none⟩ = some (.int .i64 (j0 : Int)) ∧ v.cell? ⟨w.heap.size, 2, none⟩ = some (.int .i64 0))
              (first | go_keep)
              (fail)
            have M5 := M4.set _ _ (M4.line.setNext _ hl1 (n : Nat))
            clear M4 wL4 wa4 wb4 tg4 tf4
            skip
            generalize (W.setCell ⟨gg, j0 * 3 + 2, none⟩ (.int .i64 (n : Nat))).drew = V at *
            have wL5 := M5.line.cell
            have wa5 : V.cell? ⟨w.heap.size, 1, none⟩ = some (.int .i64 (j0 : Int)) := by rw [cell_of_row _ _ _ _ _ _ M5.pb]; rfl
            have wb5 : V.cell? ⟨w.heap.size, 2, none⟩ = some (.int .i64 0) := by rw [cell_of_row _ _ _ _ _ _ M5.pb]; rfl
            have tg5 := (M5.line.at _ hl0).2.1
            have tf5 := M5.line.gfree
            generalize ((setN (ps ++ [((.pointer (some ⟨eb, 0, none⟩) : Value), ((j0 : Int) : Int), (0 : Int))]) j0 (n : Nat))[0]).2.1 = old5 at tg5
            try simp only [Nat.zero_mul, Nat.zero_add] at tg5
            go_wp2_with fail
            go_region_held3 (fun v : World => v.cell? ⟨L, 0, none⟩ = some (.slice (some ⟨gg, 0, none⟩) (n + 1) cap2) ∧ v.cell? ⟨w.heap.size, 1, none⟩ = some (.int .i64 (j0 : Int)) ∧ v.cell? ⟨w.heap.size, 2, none⟩ = some (.int .i64 0))
              (first | go_keep)
              (fail)
            have M6 := M5.set _ _ (M5.line.setPrev _ hl0 (n : Nat))
            clear M5 wL5 wa5 wb5 tg5 tf5
            simp only [Nat.zero_mul, Nat.zero_add] at M6
            generalize (V.setCell ⟨gg, 1, none⟩ (.int .i64 (n : Nat))).drew = U at *
            obtain ⟨u1, u2, u3, u4⟩ := M6.ent.cells
            obtain ⟨f1, f2, f3⟩ := M6.fin (n : Nat)
            go_wp2_with fail
            go_end0
            exact ⟨rfl, gg, cap2, f1, f2, M6.at1.imp (fun e2 => by simpa [Value.ownBlock] using e2) id, f3.mono (fun k _ h => h.imp (fun e2 => by simpa [Value.ownBlock] using e2) id)⟩
          exact AllReady.nil
        exact AllReady.nil
      exact AllReady.nil
    exact AllReady.nil
  exact AllReady.nil
set_option maxHeartbeats 1600000 in
set_option maxRecDepth 100000 in
theorem push_first (B L eb : Nat) (s : Int) (hh : Bool) (w : World) (hL : Line w B L (.slice none 0 0) []) (hE : Ent w eb s hh) (hB : B ≤ w.heap.size) :
    Calls Try.prog 16 #[.pointer (some ⟨L, 0, none⟩), .pointer (some ⟨eb, 0, none⟩)] w fun e w' => e = .returned (.tuple #[]) ∧ ∃ g' cap', Line w' B L (.slice (some ⟨g', 0, none⟩) 1 cap') [(.pointer (some ⟨eb, 0, none⟩), 0, 0)] ∧ Ent w' eb 0 false ∧ w.heap.size ≤ g' ∧ Fr w w' (fun k => k = L ∨ k = eb) := by
  obtain ⟨i0, hi, hz0, hz1, hz2⟩ := info_parts Try.info61
  have hlen : ([] : List Place).length = 0 := rfl
  have hLlt := hL.lt
  have helt := hE.lt
  have cL := hL.cell
  have dL : ∀ o, (w.alloc o).cell? ⟨L, 0, none⟩ = some (.slice none 0 0) := fun o => (World.cell?_of_block (Below.heap_alloc _ _ _ hLlt)).trans cL
  have fL : ∀ o, (w.alloc o).frozen? ⟨L, 0, none⟩ = false := fun o => (World.frozen?_of_block (Below.heap_alloc _ _ _ hLlt)).trans hL.free
  have hown := hL.own
  rw [List.length_nil] at hown
  have HE : Hid (Ent w eb s hh) := hE
  have HL : Hid (Line w B L (.slice none 0 0) []) := hL
  clear hE
  go_enter Try.func16, Try.ntmps16
  go_wp2_with fail
  refine wp_region_any (by kernel_rfl) ?_
  change wpAny _ _ _ _ _ _ _ (World.drew (w.alloc (.cells #[.pointer (some ⟨eb, 0, none⟩), .int .i64 0, .int .i64 0] 61)))
  refine wpAny_take (i := 0) (v := .pointer (some ⟨L, 0, none⟩)) rfl (by kernel_rfl) (by kernel_rfl) (by kernel_rfl) (fun _ _ _ h => h) (Or.inl ⟨by rfl, by intro w; go_simp⟩) ?_
  refine wpAny_take (i := 1) (v := .pointer (some ⟨L, 0, none⟩)) rfl (by kernel_rfl) (by kernel_rfl) (by kernel_rfl) (fun _ _ _ h => h) (Or.inl ⟨by rfl, by intro w; go_simp⟩) ?_
  refine wpAny_take (i := 2) (v := .pointer (some ⟨L, 0, none⟩)) rfl (by kernel_rfl) (by kernel_rfl) (by kernel_rfl) (fun _ _ _ h => h) (Or.inl ⟨by rfl, by intro w; go_simp⟩) ?_
  try simp only [Act.put, List.setIfInBounds_toArray]
  refine wpAny_ready (rs := [3, 4]) (by kernel_rfl) (by simp) ?_
  refine AllReady.cons rfl (fun K hK => ?_) ?_
  · (go_simp; refine hK _ _ ?_; clear hK K; try simp only [Act.put, List.setIfInBounds_toArray, List.set_cons_zero, List.set_cons_succ])
    refine wpAny_ready (rs := [4]) (by kernel_rfl) (by simp) ?_
    refine AllReady.cons rfl (fun K hK => ?_) ?_
    · (go_simp; refine hK _ _ ?_; clear hK K; try simp only [Act.put, List.setIfInBounds_toArray, List.set_cons_zero, List.set_cons_succ])
      refine wpAny_ready (rs := [5]) (by kernel_rfl) (by simp) ?_
      refine AllReady.cons rfl (fun K hK => ?_) ?_
      · (go_simp; refine hK _ _ ?_; clear hK K; try simp only [Act.put, List.setIfInBounds_toArray, List.set_cons_zero, List.set_cons_succ])
        refine wpAny_ready (rs := [6]) (by kernel_rfl) (by simp) ?_
        refine AllReady.cons rfl (fun K hK => ?_) AllReady.nil
        refine step_append_lies _ (by rfl) (.tmp 27) (.tmp 29) 43 (by rfl) B 61 i0 (.agg #[.pointer none, .int .i64 0, .int .i64 0]) 3 24 Try.underlying43 hi hz0 hz1 hz2 (by rfl) (by decide) (.slice none 0 0) 0 (flat []) (by rfl) (((hown.alloc _).alloc _).drew) ⟨w.heap.size + 1, 0, none⟩ 1 1 [.pointer (some ⟨eb, 0, none⟩), .int .i64 0, .int .i64 0] (by rfl) (by rfl) (three_cells _ _ _ _ _ _ (by simp)) (by simp [Value.oneCell']) (by decide) (by unfold maxLen; omega) (by omega) (by simp; omega) (w.heap.size + 2) (by simp) ?_
        intro gg cap2 w1 hown1 hgrow hat hlt
        refine hK _ _ ?_; clear hK K; try simp only [Act.put, List.setIfInBounds_toArray]
        obtain ⟨LW, pW, EW, FW, hgH, hb1⟩ := hL.grown2 hlen HE.out hown1 hgrow hat
        have M4 := Mid.mk LW pW EW FW (hat.imp Eq.symm (fun e2 => by omega)) hgH
        clear LW pW EW FW hgH
        have cL1 : w1.cell? ⟨L, 0, none⟩ = some (.slice none 0 0) := by rw [cell_of_row _ _ _ _ _ _ hb1]; rfl
        have fL1 : w1.frozen? ⟨L, 0, none⟩ = false := frozen_of_row w1 _ _ _ _ hb1
        refine wpAny_ready (rs := [7]) (by kernel_rfl) (by simp) ?_
        refine AllReady.cons rfl (fun K hK => ?_) ?_
        · (go_simp; refine hK _ _ ?_; clear hK K; try simp only [Act.put, List.setIfInBounds_toArray, List.set_cons_zero, List.set_cons_succ])
          refine wpAny_ready (rs := [8]) (by kernel_rfl) (by simp) ?_
          refine AllReady.cons rfl (fun K hK => ?_) ?_
          · (go_simp; refine hK _ _ ?_; clear hK K; try simp only [Act.put, List.setIfInBounds_toArray, List.set_cons_zero, List.set_cons_succ])
            refine wpAny_done (by kernel_rfl) ?_ _
            clear cL1 fL1 hb1 hown1 hgrow hat hlt hown dL fL
            generalize w1.setCell ⟨L, 0, none⟩ (.slice (some ⟨gg, 0, none⟩) (0 + 1) cap2) = W at *
            have hgL := M4.line.ne
            have hgH := M4.at2
            have hl1 : (0 : Nat) < (([] : List Place) ++ [((.pointer (some ⟨eb, 0, none⟩) : Value), (0 : Int), (0 : Int))]).length := by first | (rw [List.length_append, hlen]; simp; omega) | simp
            have hl0 : 0 < (setN (([] : List Place) ++ [((.pointer (some ⟨eb, 0, none⟩) : Value), (0 : Int), (0 : Int))]) 0 (0 : Nat)).length := by rw [setN_len]; simp
            have wL4 := M4.line.cell
            have wa4 : W.cell? ⟨w.heap.size, 1, none⟩ = some (.int .i64 0) := by rw [cell_of_row _ _ _ _ _ _ M4.pb]; rfl
            have wb4 : W.cell? ⟨w.heap.size, 2, none⟩ = some (.int .i64 0) := by rw [cell_of_row _ _ _ _ _ _ M4.pb]; rfl
            have tg4 := (M4.line.at _ hl1).2.2
            have tf4 := M4.line.gfree
            generalize ((([] : List Place) ++ [((.pointer (some ⟨eb, 0, none⟩) : Value), (0 : Int), (0 : Int))])[0]).2.2 = old4 at tg4
            try simp only [Nat.zero_mul, Nat.zero_add] at tg4
            go_wp2_with fail
            go_region_held3 (fun v : World => v.cell? ⟨L, 0, none⟩ = some (.slice (some ⟨gg, 0, none⟩) (0 + 1) cap2) ∧ v.cell? ⟨w.heap.size, 1, none⟩ = some (.int .i64 0) ∧ v.cell? ⟨w.heap.size, 2, none⟩ = some (.int .i64 0))
              (first | go_keep)
              (fail)
            have M5 := M4.set _ _ (M4.line.setNext _ hl1 (0 : Nat))
            clear M4 wL4 wa4 wb4 tg4 tf4
            simp only [Nat.zero_mul, Nat.zero_add] at M5
            generalize (W.setCell ⟨gg, 2, none⟩ (.int .i64 0)).drew = V at *
            have wL5 := M5.line.cell
            have wa5 : V.cell? ⟨w.heap.size, 1, none⟩ = some (.int .i64 0) := by rw [cell_of_row _ _ _ _ _ _ M5.pb]; rfl
            have wb5 : V.cell? ⟨w.heap.size, 2, none⟩ = some (.int .i64 0) := by rw [cell_of_row _ _ _ _ _ _ M5.pb]; rfl
            have tg5 := (M5.line.at _ hl0).2.1
            have tf5 := M5.line.gfree
            generalize ((setN (([] : List Place) ++ [((.pointer (some ⟨eb, 0, none⟩) : Value), (0 : Int), (0 : Int))]) 0 (0 : Nat))[0]).2.1 = old5 at tg5
            try simp only [Nat.zero_mul, Nat.zero_add] at tg5
            go_wp2_with fail
            go_region_held3 (fun v : World => v.cell? ⟨L, 0, none⟩ = some (.slice (some ⟨gg, 0, none⟩) (0 + 1) cap2) ∧ v.cell? ⟨w.heap.size, 1, none⟩ = some (.int .i64 0) ∧ v.cell? ⟨w.heap.size, 2, none⟩ = some (.int .i64 0))
              (first | go_keep)
              (fail)
            have M6 := M5.set _ _ (M5.line.setPrev _ hl0 (0 : Nat))
            clear M5 wL5 wa5 wb5 tg5 tf5
            simp only [Nat.zero_mul, Nat.zero_add] at M6
            generalize (V.setCell ⟨gg, 1, none⟩ (.int .i64 0)).drew = U at *
            obtain ⟨u1, u2, u3, u4⟩ := M6.ent.cells
            obtain ⟨f1, f2, f3⟩ := M6.fin (0 : Nat)
            go_wp2_with fail
            go_end0
            exact ⟨rfl, gg, cap2, f1, f2, M6.at1.elim (fun e2 => by cases e2) id, f3.mono (fun k _ h => h.elim (fun e2 => by cases e2) id)⟩
          exact AllReady.nil
        exact AllReady.nil
      exact AllReady.nil
    exact AllReady.nil
  refine AllReady.cons rfl (fun K hK => ?_) ?_
  · (go_simp; refine hK _ _ ?_; clear hK K; try simp only [Act.put, List.setIfInBounds_toArray, List.set_cons_zero, List.set_cons_succ])
    refine wpAny_ready (rs := [3, 5]) (by kernel_rfl) (by simp) ?_
    refine AllReady.cons rfl (fun K hK => ?_) ?_
    · (go_simp; refine hK _ _ ?_; clear hK K; try simp only [Act.put, List.setIfInBounds_toArray, List.set_cons_zero, List.set_cons_succ])
      refine wpAny_ready (rs := [5]) (by kernel_rfl) (by simp) ?_
      refine AllReady.cons rfl (fun K hK => ?_) ?_
      · (go_simp; refine hK _ _ ?_; clear hK K; try simp only [Act.put, List.setIfInBounds_toArray, List.set_cons_zero, List.set_cons_succ])
        refine wpAny_ready (rs := [6]) (by kernel_rfl) (by simp) ?_
        refine AllReady.cons rfl (fun K hK => ?_) AllReady.nil
        refine step_append_lies _ (by rfl) (.tmp 27) (.tmp 29) 43 (by rfl) B 61 i0 (.agg #[.pointer none, .int .i64 0, .int .i64 0]) 3 24 Try.underlying43 hi hz0 hz1 hz2 (by rfl) (by decide) (.slice none 0 0) 0 (flat []) (by rfl) (((hown.alloc _).alloc _).drew) ⟨w.heap.size + 1, 0, none⟩ 1 1 [.pointer (some ⟨eb, 0, none⟩), .int .i64 0, .int .i64 0] (by rfl) (by rfl) (three_cells _ _ _ _ _ _ (by simp)) (by simp [Value.oneCell']) (by decide) (by unfold maxLen; omega) (by omega) (by simp; omega) (w.heap.size + 2) (by simp) ?_
        intro gg cap2 w1 hown1 hgrow hat hlt
        refine hK _ _ ?_; clear hK K; try simp only [Act.put, List.setIfInBounds_toArray]
        obtain ⟨LW, pW, EW, FW, hgH, hb1⟩ := hL.grown2 hlen HE.out hown1 hgrow hat
        have M4 := Mid.mk LW pW EW FW (hat.imp Eq.symm (fun e2 => by omega)) hgH
        clear LW pW EW FW hgH
        have cL1 : w1.cell? ⟨L, 0, none⟩ = some (.slice none 0 0) := by rw [cell_of_row _ _ _ _ _ _ hb1]; rfl
        have fL1 : w1.frozen? ⟨L, 0, none⟩ = false := frozen_of_row w1 _ _ _ _ hb1
        refine wpAny_ready (rs := [7]) (by kernel_rfl) (by simp) ?_
        refine AllReady.cons rfl (fun K hK => ?_) ?_
        · (go_simp; refine hK _ _ ?_; clear hK K; try simp only [Act.put, List.setIfInBounds_toArray, List.set_cons_zero, List.set_cons_succ])
          refine wpAny_ready (rs := [8]) (by kernel_rfl) (by simp) ?_
          refine AllReady.cons rfl (fun K hK => ?_) ?_
          · (go_simp; refine hK _ _ ?_; clear hK K; try simp only [Act.put, List.setIfInBounds_toArray, List.set_cons_zero, List.set_cons_succ])
            refine wpAny_done (by kernel_rfl) ?_ _
            clear cL1 fL1 hb1 hown1 hgrow hat hlt hown dL fL
            generalize w1.setCell ⟨L, 0, none⟩ (.slice (some ⟨gg, 0, none⟩) (0 + 1) cap2) = W at *
            have hgL := M4.line.ne
            have hgH := M4.at2
            have hl1 : (0 : Nat) < (([] : List Place) ++ [((.pointer (some ⟨eb, 0, none⟩) : Value), (0 : Int), (0 : Int))]).length := by first | (rw [List.length_append, hlen]; simp; omega) | simp
            have hl0 : 0 < (setN (([] : List Place) ++ [((.pointer (some ⟨eb, 0, none⟩) : Value), (0 : Int), (0 : Int))]) 0 (0 : Nat)).length := by rw [setN_len]; simp
            have wL4 := M4.line.cell
            have wa4 : W.cell? ⟨w.heap.size, 1, none⟩ = some (.int .i64 0) := by rw [cell_of_row _ _ _ _ _ _ M4.pb]; rfl
            have wb4 : W.cell? ⟨w.heap.size, 2, none⟩ = some (.int .i64 0) := by rw [cell_of_row _ _ _ _ _ _ M4.pb]; rfl
            have tg4 := (M4.line.at _ hl1).2.2
            have tf4 := M4.line.gfree
            generalize ((([] : List Place) ++ [((.pointer (some ⟨eb, 0, none⟩) : Value), (0 : Int), (0 : Int))])[0]).2.2 = old4 at tg4
            try simp only [Nat.zero_mul, Nat.zero_add] at tg4
            go_wp2_with fail
            go_region_held3 (fun v : World => v.cell? ⟨L, 0, none⟩ = some (.slice (some ⟨gg, 0, none⟩) (0 + 1) cap2) ∧ v.cell? ⟨w.heap.size, 1, none⟩ = some (.int .i64 0) ∧ v.cell? ⟨w.heap.size, 2, none⟩ = some (.int .i64 0))
              (first | go_keep)
              (fail)
            have M5 := M4.set _ _ (M4.line.setNext _ hl1 (0 : Nat))
            clear M4 wL4 wa4 wb4 tg4 tf4
            simp only [Nat.zero_mul, Nat.zero_add] at M5
            generalize (W.setCell ⟨gg, 2, none⟩ (.int .i64 0)).drew = V at *
            have wL5 := M5.line.cell
            have wa5 : V.cell? ⟨w.heap.size, 1, none⟩ = some (.int .i64 0) := by rw [cell_of_row _ _ _ _ _ _ M5.pb]; rfl
            have wb5 : V.cell? ⟨w.heap.size, 2, none⟩ = some (.int .i64 0) := by rw [cell_of_row _ _ _ _ _ _ M5.pb]; rfl
            have tg5 := (M5.line.at _ hl0).2.1
            have tf5 := M5.line.gfree
            generalize ((setN (([] : List Place) ++ [((.pointer (some ⟨eb, 0, none⟩) : Value), (0 : Int), (0 : Int))]) 0 (0 : Nat))[0]).2.1 = old5 at tg5
            try simp only [Nat.zero_mul, Nat.zero_add] at tg5
            go_wp2_with fail
            go_region_held3 (fun v : World => v.cell? ⟨L, 0, none⟩ = some (.slice (some ⟨gg, 0, none⟩) (0 + 1) cap2) ∧ v.cell? ⟨w.heap.size, 1, none⟩ = some (.int .i64 0) ∧ v.cell? ⟨w.heap.size, 2, none⟩ = some (.int .i64 0))
              (first | go_keep)
              (fail)
            have M6 := M5.set _ _ (M5.line.setPrev _ hl0 (0 : Nat))
            clear M5 wL5 wa5 wb5 tg5 tf5
            simp only [Nat.zero_mul, Nat.zero_add] at M6
            generalize (V.setCell ⟨gg, 1, none⟩ (.int .i64 0)).drew = U at *
            obtain ⟨u1, u2, u3, u4⟩ := M6.ent.cells
            obtain ⟨f1, f2, f3⟩ := M6.fin (0 : Nat)
            go_wp2_with fail
            go_end0
            exact ⟨rfl, gg, cap2, f1, f2, M6.at1.elim (fun e2 => by cases e2) id, f3.mono (fun k _ h => h.elim (fun e2 => by cases e2) id)⟩
          exact AllReady.nil
        exact AllReady.nil
      exact AllReady.nil
    refine AllReady.cons rfl (fun K hK => ?_) ?_
    · (go_simp; refine hK _ _ ?_; clear hK K; try simp only [Act.put, List.setIfInBounds_toArray, List.set_cons_zero, List.set_cons_succ])
      refine wpAny_ready (rs := [3]) (by kernel_rfl) (by simp) ?_
      refine AllReady.cons rfl (fun K hK => ?_) ?_
      · (go_simp; refine hK _ _ ?_; clear hK K; try simp only [Act.put, List.setIfInBounds_toArray, List.set_cons_zero, List.set_cons_succ])
        refine wpAny_ready (rs := [6]) (by kernel_rfl) (by simp) ?_
        refine AllReady.cons rfl (fun K hK => ?_) AllReady.nil
        refine step_append_lies _ (by rfl) (.tmp 27) (.tmp 29) 43 (by rfl) B 61 i0 (.agg #[.pointer none, .int .i64 0, .int .i64 0]) 3 24 Try.underlying43 hi hz0 hz1 hz2 (by rfl) (by decide) (.slice none 0 0) 0 (flat []) (by rfl) (((hown.alloc _).alloc _).drew) ⟨w.heap.size + 1, 0, none⟩ 1 1 [.pointer (some ⟨eb, 0, none⟩), .int .i64 0, .int .i64 0] (by rfl) (by rfl) (three_cells _ _ _ _ _ _ (by simp)) (by simp [Value.oneCell']) (by decide) (by unfold maxLen; omega) (by omega) (by simp; omega) (w.heap.size + 2) (by simp) ?_
        intro gg cap2 w1 hown1 hgrow hat hlt
        refine hK _ _ ?_; clear hK K; try simp only [Act.put, List.setIfInBounds_toArray]
        obtain ⟨LW, pW, EW, FW, hgH, hb1⟩ := hL.grown2 hlen HE.out hown1 hgrow hat
        have M4 := Mid.mk LW pW EW FW (hat.imp Eq.symm (fun e2 => by omega)) hgH
        clear LW pW EW FW hgH
        have cL1 : w1.cell? ⟨L, 0, none⟩ = some (.slice none 0 0) := by rw [cell_of_row _ _ _ _ _ _ hb1]; rfl
        have fL1 : w1.frozen? ⟨L, 0, none⟩ = false := frozen_of_row w1 _ _ _ _ hb1
        refine wpAny_ready (rs := [7]) (by kernel_rfl) (by simp) ?_
        refine AllReady.cons rfl (fun K hK => ?_) ?_
        · (go_simp; refine hK _ _ ?_; clear hK K; try simp only [Act.put, List.setIfInBounds_toArray, List.set_cons_zero, List.set_cons_succ])
          refine wpAny_ready (rs := [8]) (by kernel_rfl) (by simp) ?_
          refine AllReady.cons rfl (fun K hK => ?_) ?_
          · (go_simp; refine hK _ _ ?_; clear hK K; try simp only [Act.put, List.setIfInBounds_toArray, List.set_cons_zero, List.set_cons_succ])
            refine wpAny_done (by kernel_rfl) ?_ _
            clear cL1 fL1 hb1 hown1 hgrow hat hlt hown dL fL
            generalize w1.setCell ⟨L, 0, none⟩ (.slice (some ⟨gg, 0, none⟩) (0 + 1) cap2) = W at *
            have hgL := M4.line.ne
            have hgH := M4.at2
            have hl1 : (0 : Nat) < (([] : List Place) ++ [((.pointer (some ⟨eb, 0, none⟩) : Value), (0 : Int), (0 : Int))]).length := by first | (rw [List.length_append, hlen]; simp; omega) | simp
            have hl0 : 0 < (setN (([] : List Place) ++ [((.pointer (some ⟨eb, 0, none⟩) : Value), (0 : Int), (0 : Int))]) 0 (0 : Nat)).length := by rw [setN_len]; simp
            have wL4 := M4.line.cell
            have wa4 : W.cell? ⟨w.heap.size, 1, none⟩ = some (.int .i64 0) := by rw [cell_of_row _ _ _ _ _ _ M4.pb]; rfl
            have wb4 : W.cell? ⟨w.heap.size, 2, none⟩ = some (.int .i64 0) := by rw [cell_of_row _ _ _ _ _ _ M4.pb]; rfl
            have tg4 := (M4.line.at _ hl1).2.2
            have tf4 := M4.line.gfree
            generalize ((([] : List Place) ++ [((.pointer (some ⟨eb, 0, none⟩) : Value), (0 : Int), (0 : Int))])[0]).2.2 = old4 at tg4
            try simp only [Nat.zero_mul, Nat.zero_add] at tg4
            go_wp2_with fail
            go_region_held3 (fun v : World => v.cell? ⟨L, 0, none⟩ = some (.slice (some ⟨gg, 0, none⟩) (0 + 1) cap2) ∧ v.cell? ⟨w.heap.size, 1, none⟩ = some (.int .i64 0) ∧ v.cell? ⟨w.heap.size, 2, none⟩ = some (.int .i64 0))
              (first | go_keep)
              (fail)
            have M5 := M4.set _ _ (M4.line.setNext _ hl1 (0 : Nat))
            clear M4 wL4 wa4 wb4 tg4 tf4
            simp only [Nat.zero_mul, Nat.zero_add] at M5
            generalize (W.setCell ⟨gg, 2, none⟩ (.int .i64 0)).drew = V at *
            have wL5 := M5.line.cell
            have wa5 : V.cell? ⟨w.heap.size, 1, none⟩ = some (.int .i64 0) := by rw [cell_of_row _ _ _ _ _ _ M5.pb]; rfl
            have wb5 : V.cell? ⟨w.heap.size, 2, none⟩ = some (.int .i64 0) := by rw [cell_of_row _ _ _ _ _ _ M5.pb]; rfl
            have tg5 := (M5.line.at _ hl0).2.1
            have tf5 := M5.line.gfree
            generalize ((setN (([] : List Place) ++ [((.pointer (some ⟨eb, 0, none⟩) : Value), (0 : Int), (0 : Int))]) 0 (0 : Nat))[0]).2.1 = old5 at tg5
            try simp only [Nat.zero_mul, Nat.zero_add] at tg5
            go_wp2_with fail
            go_region_held3 (fun v : World => v.cell? ⟨L, 0, none⟩ = some (.slice (some ⟨gg, 0, none⟩) (0 + 1) cap2) ∧ v.cell? ⟨w.heap.size, 1, none⟩ = some (.int .i64 0) ∧ v.cell? ⟨w.heap.size, 2, none⟩ = some (.int .i64 0))
              (first | go_keep)
              (fail)
            have M6 := M5.set _ _ (M5.line.setPrev _ hl0 (0 : Nat))
            clear M5 wL5 wa5 wb5 tg5 tf5
            simp only [Nat.zero_mul, Nat.zero_add] at M6
            generalize (V.setCell ⟨gg, 1, none⟩ (.int .i64 0)).drew = U at *
            obtain ⟨u1, u2, u3, u4⟩ := M6.ent.cells
            obtain ⟨f1, f2, f3⟩ := M6.fin (0 : Nat)
            go_wp2_with fail
            go_end0
            exact ⟨rfl, gg, cap2, f1, f2, M6.at1.elim (fun e2 => by cases e2) id, f3.mono (fun k _ h => h.elim (fun e2 => by cases e2) id)⟩
          exact AllReady.nil
        exact AllReady.nil
      exact AllReady.nil
    exact AllReady.nil
  exact AllReady.nil
end Go.Proofs.Qxb6626088a
