import Derived.Test.Qxb6626088aRows
import Derived.WalkKit
import Derived.BigQuiet
import Derived.Deep.QuietTactic
import Derived.Deep.AppendLies
import Derived.Deep.RegionHeld3
import Derived.Deep.DrawnRows
namespace Go.Proofs.Qxb6626088a
open Go.RowKit

theorem Try.info61 : (Try.prog.info? 61).map (fun i => (i.zero, i.size, i.bytes)) = some (some (.agg #[.pointer none, .int .i64 0, .int .i64 0]), 3, 24) := by kernel_rfl

/-- A place: the entry's pointer, prev, next. -/
abbrev Place := Value × Int × Int
def flat (ps : List Place) : List Value := ps.flatMap fun p => [p.1, .int .i64 p.2.1, .int .i64 p.2.2]

theorem flat_length : ∀ ps : List Place, (flat ps).length = ps.length * 3
  | [] => rfl
  | p :: ps => by
    have := flat_length ps
    simp only [flat, List.flatMap_cons, List.length_append, List.length_cons, List.length_nil] at this ⊢
    omega
theorem flat_snoc (ps : List Place) (p : Place) : flat (ps ++ [p]) = flat ps ++ [p.1, .int .i64 p.2.1, .int .i64 p.2.2] := by simp [flat]
theorem flat_cons (p : Place) (ps : List Place) : flat (p :: ps) = [p.1, .int .i64 p.2.1, .int .i64 p.2.2] ++ flat ps := rfl

theorem flat_get : ∀ (ps : List Place) (k : Nat) (h : k < ps.length), (flat ps)[k * 3]? = some (ps[k]).1 ∧ (flat ps)[k * 3 + 1]? = some (.int .i64 (ps[k]).2.1) ∧ (flat ps)[k * 3 + 2]? = some (.int .i64 (ps[k]).2.2)
  | [], k, h => by simp at h
  | p :: ps, 0, h => by simp [flat]
  | p :: ps, k + 1, h => by
    have := flat_get ps k (by simpa using h)
    rw [flat_cons]
    simpa [Nat.add_mul] using this

/-- One field of one place written. -/
theorem flat_setPrev : ∀ (ps : List Place) (k : Nat) (h : k < ps.length) (x : Int), (flat ps).set (k * 3 + 1) (.int .i64 x) = flat (ps.set k ((ps[k]).1, x, (ps[k]).2.2))
  | [], k, h, x => by simp at h
  | p :: ps, 0, h, x => by simp [flat]
  | p :: ps, k + 1, h, x => by
    have := flat_setPrev ps k (by simpa using h) x
    rw [flat_cons]
    simp only [List.set_cons_succ, List.getElem_cons_succ]
    rw [flat_cons, ← this]
    simp [Nat.add_mul]
theorem flat_setNext : ∀ (ps : List Place) (k : Nat) (h : k < ps.length) (x : Int), (flat ps).set (k * 3 + 2) (.int .i64 x) = flat (ps.set k ((ps[k]).1, (ps[k]).2.1, x))
  | [], k, h, x => by simp at h
  | p :: ps, 0, h, x => by simp [flat]
  | p :: ps, k + 1, h, x => by
    have := flat_setNext ps k (by simpa using h) x
    rw [flat_cons]
    simp only [List.set_cons_succ, List.getElem_cons_succ]
    rw [flat_cons, ← this]
    simp [Nat.add_mul]

/-- The line behind the pointer ⟨L, 0⟩. -/
structure Line (w : World) (B L : Nat) (lv : Value) (ps : List Place) : Prop where
  blk : w.heap[L]? = some (.cells #[lv] 43 (0, 0))
  own : w.ownsRow B 61 3 lv ps.length (flat ps)

/-- An entry: its slot and its heaped flag. -/
def Ent (w : World) (eb : Nat) (s : Int) (h : Bool) : Prop :=
  ∃ cs : Array Value, w.heap[eb]? = some (.cells cs 57 (0, 0)) ∧ cs.size = 45 ∧ cs[43]? = some (.int .i64 s) ∧ cs[44]? = some (.bool h)

/-- Of the old blocks only those in S may have turned. -/
structure Fr (w w' : World) (S : Nat → Prop) : Prop where
  os : w'.os = w.os
  tape : w'.tape = w.tape
  output : w'.output = w.output
  size : w.heap.size ≤ w'.heap.size
  block : ∀ k, k < w.heap.size → ¬ S k → w'.heap[k]? = w.heap[k]?

theorem Fr.trans {w w1 w2 : World} {S T : Nat → Prop} (h : Fr w w1 S) (k : Fr w1 w2 T) (hs : ∀ i, i < w.heap.size → T i → S i) : Fr w w2 S :=
  ⟨k.os.trans h.os, k.tape.trans h.tape, k.output.trans h.output, Nat.le_trans h.size k.size, fun i hi hn => (k.block i (Nat.lt_of_lt_of_le hi h.size) (fun t => hn (hs i hi t))).trans (h.block i hi hn)⟩
theorem Fr.of_grown {w w' : World} {row : Option Nat} (h : w.grownBy w' row) : Fr w w' (fun k => some k = row) := ⟨h.os, h.tape, h.output, h.size, h.block⟩
theorem Fr.setCell (w : World) (b o : Nat) (v : Value) : Fr w (w.setCell ⟨b, o, none⟩ v) (fun k => k = b) := ⟨rfl, rfl, rfl, by simp [World.setCell], fun k _ hn => Below.heap_setCell _ _ _ _ hn⟩
theorem Fr.alloc (w : World) (o : Obj) : Fr w (w.alloc o) (fun _ => False) := ⟨rfl, rfl, rfl, by simp, fun k hk _ => Below.heap_alloc _ _ _ hk⟩
theorem Fr.mono {w w' : World} {S T : Nat → Prop} (h : Fr w w' S) (hs : ∀ i, i < w.heap.size → S i → T i) : Fr w w' T := ⟨h.os, h.tape, h.output, h.size, fun k hk hn => h.block k hk (fun s => hn (hs k hk s))⟩
theorem Fr.below {w w' : World} {S : Nat → Prop} {B : Nat} (h : Fr w w' S) (hB : B ≤ w.heap.size) (hs : ∀ k, S k → B ≤ k) : Below B w w' := ⟨h.os, h.tape, h.output, h.size, fun k hk => h.block k (by omega) (fun s => by have := hs k s; omega)⟩

theorem setCell_blk (w : World) (B o : Nat) (v : Value) (cs : Array Value) (t : TypeId) (fr : Nat × Nat) (h : w.heap[B]? = some (.cells cs t fr)) : (w.setCell ⟨B, o, none⟩ v).heap[B]? = some (.cells (cs.setIfInBounds o v) t fr) := by
  obtain ⟨hlt, h'⟩ := Array.getElem?_eq_some_iff.1 h
  show (w.heap.modify B _)[B]? = _
  rw [Array.getElem?_eq_getElem (by simpa using hlt), Array.getElem_modify_self, h']
  rfl

section
variable {w : World} {B L g n cap : Nat} {lv : Value} {ps : List Place}
theorem Line.lt (h : Line w B L lv ps) : L < w.heap.size := (Array.getElem?_eq_some_iff.1 h.blk).1
theorem Line.cell (h : Line w B L lv ps) : w.cell? ⟨L, 0, none⟩ = some lv := by rw [cell_of_row _ _ _ _ _ _ h.blk]; rfl
theorem Line.free (h : Line w B L lv ps) : w.frozen? ⟨L, 0, none⟩ = false := frozen_of_row w _ _ _ _ h.blk
theorem Line.row (h : Line w B L (.slice (some ⟨g, 0, none⟩) n cap) ps) : ps.length = n ∧ n ≤ cap ∧ B ≤ g ∧ ∃ cur : Array Value, w.heap[g]? = some (.cells cur 61 (0, 0)) ∧ cur.size = cap * 3 ∧ cur.toList.take (n * 3) = flat ps := by
  rcases h.own.2 with ⟨e, _⟩ | ⟨g0, c0, cur, hv, hb, hg, hn, _, hs, ht⟩
  · cases e
  · simp only [Value.slice.injEq, Option.some.injEq, Addr.mk.injEq, and_true] at hv
    obtain ⟨rfl, e, rfl⟩ := hv
    rw [← e] at hn ht
    exact ⟨e.symm, hn, hb, cur, hg, hs, ht⟩
/-- The line's variable and its row are two blocks. -/
theorem Line.ne (h : Line w B L (.slice (some ⟨g, 0, none⟩) n cap) ps) : g ≠ L := by
  obtain ⟨_, _, _, cur, hg, _⟩ := h.row
  intro e
  have := h.blk
  rw [← e, hg] at this
  cases this
theorem Line.glt (h : Line w B L (.slice (some ⟨g, 0, none⟩) n cap) ps) : g < w.heap.size := by
  obtain ⟨_, _, _, cur, hg, _⟩ := h.row
  exact (Array.getElem?_eq_some_iff.1 hg).1
theorem Line.at (h : Line w B L (.slice (some ⟨g, 0, none⟩) n cap) ps) (k : Nat) (hk : k < ps.length) : w.cell? ⟨g, k * 3, none⟩ = some (ps[k]).1 ∧ w.cell? ⟨g, k * 3 + 1, none⟩ = some (.int .i64 (ps[k]).2.1) ∧ w.cell? ⟨g, k * 3 + 2, none⟩ = some (.int .i64 (ps[k]).2.2) := by
  obtain ⟨a, b, c⟩ := flat_get ps k hk
  have c0 := h.own.cells (g := g) rfl _ _ a
  have c1 := h.own.cells (g := g) rfl _ _ b
  have c2 := h.own.cells (g := g) rfl _ _ c
  have add0 : ∀ j, (⟨g, 0, none⟩ : Addr).add j = ⟨g, j, none⟩ := fun j => by unfold Addr.add; split <;> simp_all
  rw [add0] at c0 c1 c2
  exact ⟨c0, c1, c2⟩
theorem Line.gfree (h : Line w B L (.slice (some ⟨g, 0, none⟩) n cap) ps) (o : Nat) : w.frozen? ⟨g, o, none⟩ = false := by
  obtain ⟨_, _, _, cur, hg, _⟩ := h.row
  exact frozen_of_row w _ _ _ _ hg

theorem Line.set (h : Line w B L (.slice (some ⟨g, 0, none⟩) n cap) ps) (o : Nat) (v : Value) (ps' : List Place) (hl : ps'.length = ps.length) (hf : (flat ps).set o v = flat ps') :
    Line (w.setCell ⟨g, o, none⟩ v) B L (.slice (some ⟨g, 0, none⟩) n cap) ps' := by
  have hne := h.ne
  obtain ⟨hn, hc, hb, cur, hg, hs, ht⟩ := h.row
  refine ⟨by rw [Below.heap_setCell _ _ _ _ (by simpa using Ne.symm hne)]; exact h.blk, by rw [flat_length], .inr ⟨g, cap, _, by rw [hl, hn], hb, setCell_blk _ _ _ _ _ _ _ hg, by omega, ?_, by simp [hs], ?_⟩⟩
  · rcases h.own.2 with ⟨e, _⟩ | ⟨g0, c0, _, hv, _, _, _, hm, _⟩
    · cases e
    · simp only [Value.slice.injEq] at hv
      omega
  · rw [Array.toList_setIfInBounds, List.take_set, hl, hn, ht, hf]
end

theorem new_any (s : Int) (h : Bool) (w : World) : Calls Try.prog 7 #[.int .i64 s, .bool h] w fun e w' => e = .returned (.pointer (some ⟨w.heap.size, 0, none⟩)) ∧ Ent w' w.heap.size s h ∧ Fr w w' (fun _ => False) ∧ w'.heap.size = w.heap.size + 1 := by
  go_enter Try.func7, Try.ntmps7
  go_wp2
  go_ret
  exact ⟨rfl, ⟨_, heap_alloc_new w _, rfl, rfl, rfl⟩, Fr.alloc _ _, by simp⟩

theorem Ent.cells {w : World} {eb : Nat} {s : Int} {h : Bool} (e : Ent w eb s h) : w.cell? ⟨eb, 43, none⟩ = some (.int .i64 s) ∧ w.cell? ⟨eb, 44, none⟩ = some (.bool h) ∧ w.frozen? ⟨eb, 43, none⟩ = false ∧ w.frozen? ⟨eb, 44, none⟩ = false := by
  obtain ⟨cs, hb, _, h1, h2⟩ := e
  exact ⟨by rw [cell_of_row _ _ _ _ _ _ hb]; exact h1, by rw [cell_of_row _ _ _ _ _ _ hb]; exact h2, frozen_of_row w _ _ _ _ hb, frozen_of_row w _ _ _ _ hb⟩
theorem Ent.lt {w : World} {eb : Nat} {s : Int} {h : Bool} (e : Ent w eb s h) : eb < w.heap.size := by
  obtain ⟨cs, hb, _⟩ := e
  exact (Array.getElem?_eq_some_iff.1 hb).1
theorem Ent.of_block {w w' : World} {eb : Nat} {s : Int} {h : Bool} (e : Ent w eb s h) (hb : w'.heap[eb]? = w.heap[eb]?) : Ent w' eb s h := by
  obtain ⟨cs, h0, r⟩ := e
  exact ⟨cs, hb.trans h0, r⟩
theorem Ent.set {w : World} {eb : Nat} {s : Int} {h : Bool} (e : Ent w eb s h) (s' : Int) (h' : Bool) : Ent ((w.setCell ⟨eb, 43, none⟩ (.int .i64 s')).setCell ⟨eb, 44, none⟩ (.bool h')) eb s' h' := by
  obtain ⟨cs, hb, hs, _, _⟩ := e
  refine ⟨_, setCell_blk _ _ _ _ _ _ _ (setCell_blk _ _ _ _ _ _ _ hb), by simp [hs], ?_, ?_⟩
  · rw [Array.getElem?_setIfInBounds_ne (by decide), Array.getElem?_setIfInBounds_self]; simp [hs]
  · rw [Array.getElem?_setIfInBounds_self]; simp [hs]
end Go.Proofs.Qxb6626088a
