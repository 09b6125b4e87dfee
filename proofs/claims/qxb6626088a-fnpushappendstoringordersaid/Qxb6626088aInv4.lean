import Derived.Test.Qxb6626088aPath
namespace Go.Proofs.Qxb6626088a
open Go.RowKit

theorem Try.info3 : (Try.prog.info? 3).map (fun i => (i.zero, i.size, i.bytes)) = some (some (.int .i64 0), 1, 8) := by kernel_rfl

/-- While prev and next are laid: k of the order's steps done. -/
structure LInv (o : Nat → Nat) (w wr : World) (PB NB n k : Nat) (P N : Nat → Int) : Prop where
  p : wr.rowIs PB 3 n (fun i => .int .i64 (P i))
  q : wr.rowIs NB 3 n (fun i => .int .i64 (N i))
  hp : ∀ j, j < k → P (o j) = (o ((j + n - 1) % n) : Nat)
  hq : ∀ j, j < k → N (o j) = (o ((j + 1) % n) : Nat)
  fr : Fr w wr (fun _ => False)
  lP : w.heap.size ≤ PB
  lN : w.heap.size ≤ NB
  ne : PB ≠ NB

theorem LInv.start (o : Nat → Nat) (w : World) (n : Nat) : LInv o w ((w.alloc (.cells (madeCells #[.int .i64 0] n) 3)).alloc (.cells (madeCells #[.int .i64 0] n) 3)) w.heap.size (w.heap.size + 1) n 0 (fun _ => 0) (fun _ => 0) := by
  refine ⟨(World.rowIs_made w _ n 3).alloc _, ?_, fun j hj => by omega, fun j hj => by omega, (Fr.alloc _ _).trans (Fr.alloc _ _) (fun _ _ h => h), Nat.le_refl _, by omega, by omega⟩
  have := World.rowIs_made (w.alloc (.cells (madeCells #[.int .i64 0] n) 3)) (.int .i64 0) n 3
  simpa using this

theorem LInv.step {o : Nat → Nat} {w wr : World} {PB NB n k : Nat} {P N : Nat → Int} (h : LInv o w wr PB NB n k P N) (hk : k < n) (inj : ∀ i j, i < n → j < n → o i = o j → i = j) :
    LInv o w ((wr.setCell ⟨NB, o k, none⟩ (.int .i64 (o ((k + 1) % n) : Nat))).setCell ⟨PB, o k, none⟩ (.int .i64 (o ((k + n - 1) % n) : Nat))) PB NB n (k + 1) (fun i => if i = o k then (o ((k + n - 1) % n) : Nat) else P i) (fun i => if i = o k then (o ((k + 1) % n) : Nat) else N i) := by
  have lP := h.lP
  have lN := h.lN
  refine ⟨?_, ?_, ?_, ?_, ?_, lP, lN, h.ne⟩
  · refine ((h.p.setOther (a := ⟨NB, o k, none⟩) h.ne _).set (o k) _).congr fun i _ => ?_
    by_cases e : i = o k <;> simp [e]
  · refine ((h.q.set (o k) _).setOther (a := ⟨PB, o k, none⟩) (Ne.symm h.ne) _).congr fun i _ => ?_
    by_cases e : i = o k <;> simp [e]
  · intro j hj
    by_cases e : j = k
    · subst e; simp
    · have : o j ≠ o k := fun e2 => e (inj j k (by omega) hk e2)
      simp only [this, if_false]
      exact h.hp j (by omega)
  · intro j hj
    by_cases e : j = k
    · subst e; simp
    · have : o j ≠ o k := fun e2 => e (inj j k (by omega) hk e2)
      simp only [this, if_false]
      exact h.hq j (by omega)
  · refine ⟨h.fr.os, h.fr.tape, h.fr.output, by simpa [World.setCell] using h.fr.size, fun j hj _ => ?_⟩
    exact (Below.heap_setCell _ _ _ _ (by show j ≠ PB; omega)).trans ((Below.heap_setCell _ _ _ _ (by show j ≠ NB; omega)).trans (h.fr.block j hj id))

/-- While the entries are made. -/
structure EInv (w wr : World) (E n k : Nat) (b : Nat → Nat) : Prop where
  es : ∃ f, wr.rowIs E 27 n f ∧ ∀ i, i < k → f i = .pointer (some ⟨b i, 0, none⟩)
  ents : ∀ i, i < k → Ent wr (b i) i false
  fr : Fr w wr (fun _ => False)
  lE : w.heap.size ≤ E
  lb : ∀ i, i < k → w.heap.size ≤ b i

theorem EInv.start (w : World) (n : Nat) : EInv w (w.alloc (.cells (madeCells #[.pointer none] n) 27)) w.heap.size n 0 (fun _ => 0) :=
  ⟨⟨_, World.rowIs_made w _ n 27, fun i hi => by omega⟩, fun i hi => by omega, Fr.alloc _ _, Nat.le_refl _, fun i hi => by omega⟩

theorem EInv.open {w wr : World} {E n k : Nat} {b : Nat → Nat} (h : EInv w wr E n k b) {w1 : World} (hF : Fr wr w1 (fun _ => False)) (hk : k < n) : (∃ v, w1.cell? ⟨E, k, none⟩ = some v) ∧ w1.frozen? ⟨E, k, none⟩ = false := by
  obtain ⟨f, hf, _⟩ := h.es
  have h1 := hf.of_block (hF.block _ hf.lt id)
  exact ⟨⟨_, h1.cell hk⟩, h1.frozen k⟩

theorem EInv.step {w wr : World} {E n k : Nat} {b : Nat → Nat} (h : EInv w wr E n k b) {w1 : World} (hF : Fr wr w1 (fun _ => False)) (hE : Ent w1 wr.heap.size k false) :
    EInv w (w1.setCell ⟨E, k, none⟩ (.pointer (some ⟨wr.heap.size, 0, none⟩))) E n (k + 1) (fun i => if i = k then wr.heap.size else b i) := by
  obtain ⟨f, hf, hb⟩ := h.es
  have h1 := hf.of_block (hF.block _ hf.lt id)
  have hlt := hf.lt
  have lE := h.lE
  refine ⟨⟨_, h1.set k _, ?_⟩, ?_, ?_, lE, ?_⟩
  · intro i hi
    by_cases e : i = k
    · simp [e]
    · simp only [e, if_false]; exact hb i (by omega)
  · intro i hi
    by_cases e : i = k
    · subst e
      simp only [if_true]
      exact hE.of_block (Below.heap_setCell _ _ _ _ (by show wr.heap.size ≠ E; omega))
    · simp only [e, if_false]
      have hi2 := h.ents i (by omega)
      have hne : b i ≠ E := by
        intro e2
        obtain ⟨cs, c1, _⟩ := hi2
        obtain ⟨c, c2, _⟩ := hf
        rw [e2, c2] at c1
        cases c1
      exact hi2.of_block ((Below.heap_setCell _ _ _ _ hne).trans (hF.block _ hi2.lt id))
  · refine ⟨hF.os.trans h.fr.os, hF.tape.trans h.fr.tape, hF.output.trans h.fr.output, ?_, fun j hj _ => ?_⟩
    · have := h.fr.size; have := hF.size; simp [World.setCell]; omega
    · have := h.fr.size
      exact (Below.heap_setCell _ _ _ _ (by show j ≠ E; omega)).trans ((hF.block j (by omega) id).trans (h.fr.block j hj id))
  · intro i hi
    by_cases e : i = k
    · simp only [e, if_true]; exact h.fr.size
    · simp only [e, if_false]; exact h.lb i (by omega)

/-- Behind the push. -/
structure F4 (w0 wq : World) (L g cap E n : Nat) (ps : List Place) (b : Nat → Nat) (P N : Nat → Int) : Prop where
  line : Line wq w0.heap.size L (.slice (some ⟨g, 0, none⟩) (n + 1) cap) ps
  at' : Places ps (n + 1) b P N
  es : wq.rowIs E 27 n (fun i => .pointer (some ⟨b i, 0, none⟩))
  ents : ∀ i, i ≤ n → Ent wq (b i) i false
  low : Below w0.heap.size w0 wq

theorem F4.keep {w0 wq : World} {L g cap E n : Nat} {ps : List Place} {b : Nat → Nat} {P N : Nat → Int} (h : F4 w0 wq L g cap E n ps b P N) {w' : World} (hF : Fr wq w' (fun _ => False)) : F4 w0 w' L g cap E n ps b P N := by
  have hb : ∀ k, k < wq.heap.size → w'.heap[k]? = wq.heap[k]? := fun k hk => hF.block k hk id
  have hs : w0.heap.size ≤ wq.heap.size := by have := h.low.size; exact this
  exact ⟨h.line.keep (fun k hk _ => hb k hk), h.at', h.es.of_block (hb _ h.es.lt), fun i hi => (h.ents i hi).of_block (hb _ (h.ents i hi).lt), h.low.trans (hF.below hs (fun _ f => f.elim))⟩

theorem F4.start {w0 w2 w3 w4 w5 w6 : World} {L g E n : Nat} {b : Nat → Nat} {P N P' N' : Nat → Int} {g' cap' : Nat} {ps' : List Place} (hF2 : Fr w0 w2 (fun _ => False)) (hE : EInv w2 w3 E n n b) (hf : w3.rowIs E 27 n (fun i => .pointer (some ⟨b i, 0, none⟩)))
    (hL : Laid w3 w4 w0.heap.size L g n n b P N)  (hF5 : Fr w4 w5 (fun _ => False)) (hl6 : Line w6 w0.heap.size L (.slice (some ⟨g', 0, none⟩) (n + 1) cap') ps')
    (hp6 : Places ps' (n + 1) (fun i => if i = n then w4.heap.size else b i) P' N') (he6 : Ent w6 w4.heap.size n false) (hF6 : Fr w5 w6 (fun k => k = g ∨ k = L ∨ k = w4.heap.size)) :
    F4 w0 w6 L g' cap' E n ps' (fun i => if i = n then w4.heap.size else b i) P' N' := by
  have s0 := hE.fr.size
  have s2 := hF2.size
  have s3 := hL.fr.size
  have s5 := hF5.size
  have hL2 := hL.low
  have old : ∀ k, k < w3.heap.size → w6.heap[k]? = w3.heap[k]? := fun k hk =>
    (hF6.block k (by omega) (by omega)).trans ((hF5.block k (by omega) id).trans (hL.fr.block k hk id))
  refine ⟨hl6, hp6, ?_, ?_, ?_⟩
  · refine (hf.of_block (old _ hf.lt)).congr fun i hi => ?_
    simp only [show ¬ i = n by omega, if_false]
  · intro i hi
    by_cases e : i = n
    · subst e; simp only [if_true]; exact he6
    · simp only [e, if_false]
      exact (hE.ents i (by omega)).of_block (old _ (hE.ents i (by omega)).lt)
  · exact ⟨hF6.os.trans (hF5.os.trans (hL.fr.os.trans (hE.fr.os.trans hF2.os))), hF6.tape.trans (hF5.tape.trans (hL.fr.tape.trans (hE.fr.tape.trans hF2.tape))), hF6.output.trans (hF5.output.trans (hL.fr.output.trans (hE.fr.output.trans hF2.output))), by have := hF6.size; omega, fun k hk => (old k (by omega)).trans ((hE.fr.block k (by omega) id).trans (hF2.block k hk id))⟩
end Go.Proofs.Qxb6626088a
