import Derived.Test.Qxb6626088aFns
namespace Go.Proofs.Qxb6626088a
open Go.RowKit

theorem Line.keep {w w' : World} {B L : Nat} {lv : Value} {ps : List Place} (h : Line w B L lv ps) (hk : ∀ k, k < w.heap.size → (k = L ∨ some k = lv.ownBlock) → w'.heap[k]? = w.heap[k]?) : Line w' B L lv ps := by
  refine ⟨(hk L h.lt (.inl rfl)).trans h.blk, h.own.1, ?_⟩
  rcases h.own.2 with e | ⟨g0, c0, cur, hv, hb, hg, r⟩
  · exact .inl e
  · exact .inr ⟨g0, c0, cur, hv, hb, (hk g0 (Array.getElem?_eq_some_iff.1 hg).1 (.inr (by rw [hv]; rfl))).trans hg, r⟩
theorem Line.own_type {w : World} {B L : Nat} {lv : Value} {ps : List Place} (h : Line w B L lv ps) (k : Nat) (hk : some k = lv.ownBlock) : B ≤ k ∧ ∃ cs : Array Value, w.heap[k]? = some (.cells cs 61 (0, 0)) := by
  rcases h.own.2 with ⟨e, _⟩ | ⟨g0, c0, cur, hv, hb, hg, _⟩
  · rw [e] at hk; cases hk
  · rw [hv] at hk
    obtain rfl : k = g0 := by simpa [Value.ownBlock] using hk
    exact ⟨hb, _, hg⟩

/-- The state of the law: i entries pushed; es holds them; each reads its slot. -/
structure Inv (w0 w : World) (L E n i : Nat) (lv : Value) (ps : List Place) (bs : List Nat) : Prop where
  line : Line w w0.heap.size L lv ps
  ring : Ring ps bs
  len : bs.length = i
  ents : ∀ k b : Nat, bs[k]? = some b → Ent w b k false
  es : ∃ cs : Array Value, w.heap[E]? = some (.cells cs 27 (0, 0)) ∧ cs.size = n ∧ ∀ k b : Nat, bs[k]? = some b → cs[k]? = some (.pointer (some ⟨b, 0, none⟩))
  low : Below w0.heap.size w0 w
  lL : w0.heap.size ≤ L
  lE : w0.heap.size ≤ E

section
variable {w0 w : World} {L E n i : Nat} {lv : Value} {ps : List Place} {bs : List Nat}
theorem Inv.low2 (h : Inv w0 w L E n i lv ps bs) : w0.heap.size ≤ w.heap.size := Nat.le_trans h.lL (Nat.le_of_lt h.line.lt)
theorem Inv.cell (h : Inv w0 w L E n i lv ps bs) (k b : Nat) (hb : bs[k]? = some b) : w.cell? ⟨E, k, none⟩ = some (.pointer (some ⟨b, 0, none⟩)) := by
  obtain ⟨cs, he, _, hc⟩ := h.es
  rw [cell_of_row _ _ _ _ _ _ he]; exact hc k b hb
theorem Inv.open (h : Inv w0 w L E n i lv ps bs) (k : Nat) (hk : k < n) : (∃ v, w.cell? ⟨E, k, none⟩ = some v) ∧ w.frozen? ⟨E, k, none⟩ = false := by
  obtain ⟨cs, he, hs, _⟩ := h.es
  exact ⟨⟨cs[k], by rw [cell_of_row _ _ _ _ _ _ he]; simp [hs, hk]⟩, frozen_of_row w _ _ _ _ he⟩
theorem Inv.keep (h : Inv w0 w L E n i lv ps bs) {w' : World} (hF : Fr w w' (fun _ => False)) : Inv w0 w' L E n i lv ps bs := by
  have hb : ∀ k, k < w.heap.size → w'.heap[k]? = w.heap[k]? := fun k hk => hF.block k hk id
  obtain ⟨cs, he, hs, hc⟩ := h.es
  exact ⟨h.line.keep (fun k hk _ => hb k hk), h.ring, h.len, fun k b e => (h.ents k b e).of_block (hb b (h.ents k b e).lt), ⟨cs, (hb E (Array.getElem?_eq_some_iff.1 he).1).trans he, hs, hc⟩, h.low.trans (hF.below h.low2 (fun _ f => f.elim)), h.lL, h.lE⟩

/-- Behind the making of the next entry and its store into es. -/
theorem Inv.mid (h : Inv w0 w L E n i lv ps bs) {w1 : World} {s : Int} {hh : Bool} (hE : Ent w1 w.heap.size s hh) (hF : Fr w w1 (fun _ => False)) (v : Value) :
    Line (w1.setCell ⟨E, i, none⟩ v) w0.heap.size L lv ps ∧ Ent (w1.setCell ⟨E, i, none⟩ v) w.heap.size s hh ∧ w0.heap.size ≤ (w1.setCell ⟨E, i, none⟩ v).heap.size := by
  obtain ⟨cs, he, hs, hc⟩ := h.es
  have hlt := (Array.getElem?_eq_some_iff.1 he).1
  have h1 : ∀ k, k < w.heap.size → k ≠ E → (w1.setCell ⟨E, i, none⟩ v).heap[k]? = w.heap[k]? := fun k hk hne => (Below.heap_setCell _ _ _ _ hne).trans (hF.block k hk id)
  refine ⟨h.line.keep (fun k hk e => h1 k hk ?_), hE.of_block (Below.heap_setCell _ _ _ _ (by simp; omega)), by have := h.low2; have := hF.size; simp [World.setCell]; omega⟩
  rcases e with rfl | e
  · intro e2
    have := h.line.blk
    rw [e2, he] at this
    cases this
  · intro e2
    obtain ⟨_, cs2, hc2⟩ := h.line.own_type k e
    rw [e2, he] at hc2
    cases hc2

theorem Inv.step (h : Inv w0 w L E n i lv ps bs) (hi : i < n) {w1 w3 : World} {s : Int} {hh : Bool} (hE : Ent w1 w.heap.size s hh) (hF : Fr w w1 (fun _ => False)) {lv' : Value} {ps' : List Place}
    (hL : Line w3 w0.heap.size L lv' ps') (hR : Ring ps' (bs ++ [w.heap.size])) (hE3 : Ent w3 w.heap.size i false)
    (hF3 : Fr (w1.setCell ⟨E, i, none⟩ (.pointer (some ⟨w.heap.size, 0, none⟩))) w3 (fun k => some k = lv.ownBlock ∨ k = L ∨ k = w.heap.size)) : Inv w0 w3 L E n (i + 1) lv' ps' (bs ++ [w.heap.size]) := by
  obtain ⟨hLm, _, _⟩ := h.mid hE hF (.pointer (some ⟨w.heap.size, 0, none⟩))
  obtain ⟨cs, he, hs, hc⟩ := h.es
  have hlt := (Array.getElem?_eq_some_iff.1 he).1
  have hsz := hF.size
  have hlow := h.low2
  have h1 : ∀ k, k < w.heap.size → k ≠ E → (w1.setCell ⟨E, i, none⟩ (.pointer (some ⟨w.heap.size, 0, none⟩))).heap[k]? = w.heap[k]? := fun k hk hne => (Below.heap_setCell _ _ _ _ hne).trans (hF.block k hk id)
  have hsz2 : (w1.setCell ⟨E, i, none⟩ (.pointer (some ⟨w.heap.size, 0, none⟩))).heap.size = w1.heap.size := by simp [World.setCell]
  have hEL : E ≠ L := by
    intro e2
    have := h.line.blk
    rw [← e2, he] at this
    cases this
  have hEo : some E ≠ lv.ownBlock := by
    intro e2
    obtain ⟨_, cs2, hc2⟩ := h.line.own_type E e2
    rw [he] at hc2
    cases hc2
  have he2 : (w1.setCell ⟨E, i, none⟩ (.pointer (some ⟨w.heap.size, 0, none⟩))).heap[E]? = some (.cells (cs.setIfInBounds i (.pointer (some ⟨w.heap.size, 0, none⟩))) 27 (0, 0)) := setCell_blk _ _ _ _ _ _ _ ((hF.block E hlt id).trans he)
  have hent : ∀ k b : Nat, bs[k]? = some b → b < w.heap.size ∧ b ≠ E ∧ b ≠ L ∧ some b ≠ lv.ownBlock := by
    intro k b e
    have hb := h.ents k b e
    refine ⟨hb.lt, ?_, ?_, ?_⟩
    · rintro rfl
      obtain ⟨c, h2, _⟩ := hb
      rw [he] at h2; cases h2
    · rintro rfl
      obtain ⟨c, h2, _⟩ := hb
      rw [h.line.blk] at h2; cases h2
    · intro e2
      obtain ⟨c, h2, _⟩ := hb
      obtain ⟨_, cs2, hc2⟩ := h.line.own_type b e2
      rw [hc2] at h2; cases h2
  have hlast : ∀ k b : Nat, (bs ++ [w.heap.size])[k]? = some b → bs[k]? = some b ∨ (k = i ∧ b = w.heap.size) := by
    intro k b e
    by_cases hk : k < bs.length
    · rw [List.getElem?_append_left hk] at e; exact .inl e
    · rw [List.getElem?_append_right (by omega)] at e
      have hk2 : k - bs.length = 0 := by
        have := (List.getElem?_eq_some_iff.1 e).1
        simpa using this
      rw [hk2] at e
      have := h.len
      exact .inr ⟨by omega, by simpa using e.symm⟩
  refine ⟨hL, hR, by simp [h.len], ?_, ⟨_, (hF3.block E (by omega) ?_).trans he2, by simp [hs], ?_⟩, (h.low.trans (hF.below hlow (fun _ f => f.elim))).trans (((Fr.setCell w1 E i _).below (by omega) (fun k e => by rw [e]; exact h.lE)).trans (hF3.below (by omega) ?_)), h.lL, h.lE⟩
  · intro k b e
    rcases hlast k b e with e | ⟨rfl, rfl⟩
    · obtain ⟨a1, a2, a3, a4⟩ := hent k b e
      exact (h.ents k b e).of_block ((hF3.block b (by omega) (by rintro (e2 | e2 | e2); exact a4 e2; exact a3 e2; omega)).trans (h1 b a1 a2))
    · exact hE3
  · rintro (e2 | e2 | e2)
    · exact hEo e2
    · exact hEL e2
    · omega
  · intro k b e
    rcases hlast k b e with e | ⟨rfl, rfl⟩
    · have hk : k < bs.length := (List.getElem?_eq_some_iff.1 e).1
      have := h.len
      rw [Array.getElem?_setIfInBounds_ne (by omega)]
      exact hc k b e
    · rw [Array.getElem?_setIfInBounds_self]; simp [hs, hi]
  · rintro k (e2 | e2 | e2)
    · exact (h.line.own_type k e2).1
    · rw [e2]; exact h.lL
    · omega
end

theorem Inv.start (w0 : World) (n : Nat) (w2 : World) (hown : w2.ownsRow w0.heap.size 27 1 (.slice (some ⟨w0.heap.size + 1, 0, none⟩) n n) n (madeCells (Value.pointer none).cells (n * 1)).toList) (hg : (w0.alloc (.cells #[.slice none 0 0] 43)).grownBy w2 none) :
    Inv w0 w2 w0.heap.size (w0.heap.size + 1) n 0 (.slice none 0 0) [] [] := by
  have hb : ∀ k, k < w0.heap.size + 1 → w2.heap[k]? = (w0.alloc (.cells #[.slice none 0 0] 43)).heap[k]? := fun k hk => hg.block k (by simpa using hk) (by simp)
  refine ⟨⟨(hb _ (by omega)).trans (heap_alloc_new w0 _), rfl, .inl ⟨rfl, rfl⟩⟩, ⟨rfl, fun k h => by simp at h⟩, rfl, fun k b e => by simp at e, ?_, ⟨hg.os, hg.tape, hg.output, by have := hg.size; simp at this; omega, fun k hk => (hb k (by omega)).trans (Below.heap_alloc _ _ _ hk)⟩, Nat.le_refl _, by omega⟩
  rcases hown.2 with ⟨e, _⟩ | ⟨g, c, cur, hv, _, hgb, _, _, hsz, _⟩
  · cases e
  · simp only [Value.slice.injEq, Option.some.injEq, Addr.mk.injEq, and_true] at hv
    obtain ⟨rfl, _, rfl⟩ := hv
    exact ⟨cur, hgb, by omega, fun k b e => by simp at e⟩
end Go.Proofs.Qxb6626088a
