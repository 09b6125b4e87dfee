import Derived.Test.Qxb6626088aOk
import Derived.Deep.OwnRows
namespace Go.Proofs.Qxb6626088a
open Go.RowKit

theorem flat_setFst : ∀ (ps : List Place) (k : Nat) (h : k < ps.length) (x : Value), (flat ps).set (k * 3) x = flat (ps.set k (x, (ps[k]).2.1, (ps[k]).2.2))
  | [], k, h, x => by simp at h
  | p :: ps, 0, h, x => by simp [flat]
  | p :: ps, k + 1, h, x => by
    have := flat_setFst ps k (by simpa using h) x
    rw [flat_cons]
    simp only [List.set_cons_succ, List.getElem_cons_succ]
    rw [flat_cons, ← this]
    simp [Nat.add_mul]

theorem Line.setPlace {w : World} {B L g n cap : Nat} {ps : List Place} (h : Line w B L (.slice (some ⟨g, 0, none⟩) n cap) ps) (k : Nat) (hk : k < ps.length) (x : Value) (p q : Int) :
    Line (((w.setCell ⟨g, k * 3, none⟩ x).setCell ⟨g, k * 3 + 1, none⟩ (.int .i64 p)).setCell ⟨g, k * 3 + 2, none⟩ (.int .i64 q)) B L (.slice (some ⟨g, 0, none⟩) n cap) (ps.set k (x, p, q)) := by
  have h1 := h.set (k * 3) x (ps.set k (x, (ps[k]).2.1, (ps[k]).2.2)) (by simp) (flat_setFst ps k hk x)
  have h2 := h1.set (k * 3 + 1) (.int .i64 p) _ (by simp) (flat_setPrev _ k (by simpa using hk) p)
  have h3 := h2.set (k * 3 + 2) (.int .i64 q) _ (by simp) (flat_setNext _ k (by simpa using hk) q)
  simpa using h3

theorem made_places (n : Nat) (a : Value) (b c : Int) : (madeCells #[a, .int .i64 b, .int .i64 c] (n * 3)).toList = flat (List.replicate n (a, b, c)) := by
  apply List.ext_getElem?
  intro i
  by_cases hi : i < n * 3
  · obtain ⟨k, r, hr, rfl⟩ : ∃ k r, r < 3 ∧ i = k * 3 + r := ⟨i / 3, i % 3, by omega, by omega⟩
    obtain ⟨f0, f1, f2⟩ := flat_get (List.replicate n (a, b, c)) k (by simp; omega)
    match r, hr with
    | 0, _ => simp only [Nat.add_zero]; rw [f0]; simp [madeCells]; exact ⟨_, List.getElem?_range (by omega), by rw [show k * 3 % 3 = 0 by omega]; rfl⟩
    | 1, _ => rw [f1]; simp [madeCells]; exact ⟨_, List.getElem?_range (by omega), by rw [show (k * 3 + 1) % 3 = 1 by omega]; rfl⟩
    | 2, _ => rw [f2]; simp [madeCells]; exact ⟨_, List.getElem?_range (by omega), by rw [show (k * 3 + 2) % 3 = 2 by omega]; rfl⟩
  · rw [List.getElem?_eq_none (by simp [size_madeCells]; omega), List.getElem?_eq_none (by rw [flat_length]; simp; omega)]

/-- The places that the links give, the first i of them laid. -/
structure Laid (w wr : World) (B L g n i : Nat) (b : Nat → Nat) (P N : Nat → Int) : Prop where
  line : ∃ ps, Line wr B L (.slice (some ⟨g, 0, none⟩) n n) ps ∧ ps.length = n ∧ ∀ k, k < i → ps[k]? = some (ptr (b k), P k, N k)
  fr : Fr w wr (fun _ => False)
  low : w.heap.size ≤ g ∧ w.heap.size ≤ L

set_option maxHeartbeats 1600000 in
set_option maxRecDepth 100000 in
theorem links_any (B E PB NB n : Nat) (b : Nat → Nat) (P N : Nat → Int) (w : World) (hn : n ≤ 65536) (hB : B ≤ w.heap.size) (hE : w.rowIs E 27 n (fun i => .pointer (some ⟨b i, 0, none⟩))) (hP : w.rowIs PB 3 n (fun i => .int .i64 (P i))) (hN : w.rowIs NB 3 n (fun i => .int .i64 (N i))) :
    Calls Try.prog 15 #[.slice (some ⟨E, 0, none⟩) n n, .slice (some ⟨PB, 0, none⟩) n n, .slice (some ⟨NB, 0, none⟩) n n] w fun e w' => ∃ L g, e = .returned (.pointer (some ⟨L, 0, none⟩)) ∧ Laid w w' B L g n n b P N := by
  obtain ⟨i0, hi, hz0, hz1, hz2⟩ := info_parts Try.info61
  go_enter Try.func15, Try.ntmps15
  go_wp2_with (at_make; refine wpList_make_full _ rfl (.tmp 10) (.tmp 10) 43 rfl B 61 i0 (.agg #[.pointer none, .int .i64 0, .int .i64 0]) 3 Try.underlying43 hi hz0 hz1 .i64 .i64 _ _ n rfl rfl (by omega) (by omega) ?b2 ?b3 ?b4 ?_)
  case b2 => rw [hz2]; omega
  case b3 => unfold maxLen; omega
  case b4 => omega
  intro w1 hown hgrow
  rw [made_places] at hown
  have hsz := hgrow.size
  have hglt : w.heap.size < w1.heap.size := by
    rcases hown.2 with ⟨e, _⟩ | ⟨g0, c0, cur, hv, _, hg, _⟩
    · cases e
    · simp only [Value.slice.injEq, Option.some.injEq, Addr.mk.injEq] at hv
      obtain ⟨⟨rfl, _⟩, _⟩ := hv
      exact (Array.getElem?_eq_some_iff.1 hg).1
  have hI : Laid w (w1.alloc (.cells #[.slice (some ⟨w.heap.size, 0, none⟩) n n] 43)) B w1.heap.size w.heap.size n 0 b P N := by
    refine ⟨⟨List.replicate n (.pointer none, 0, 0), ⟨heap_alloc_new w1 _, ?_⟩, by simp, fun k hk => by omega⟩, ⟨hgrow.os, hgrow.tape, hgrow.output, by simp; omega, fun k hk _ => (Below.heap_alloc _ _ _ (by omega)).trans (hgrow.block k hk (by simp))⟩, Nat.le_refl _, by omega⟩
    rw [List.length_replicate]
    exact hown.alloc _
  clear hown hgrow
  have hlow : w.heap.size ≤ w1.heap.size := hsz
  clear hsz
  have HLT : Hid (w.heap.size < w1.heap.size) := hglt
  clear hglt
  go_wp2_with fail
  generalize hG : w.heap.size = g at hI ⊢
  generalize hL : w1.heap.size = L at hI ⊢
  go_loopw [8] (fun i wr => ∃ k : Nat, k ≤ n ∧ i = .int .i64 k ∧ Laid w wr B L g n k b P N) (fun i _ => n - (intOf i).toNat)
  case atStart => exact ⟨0, by omega, rfl, hI⟩
  case round =>
    clear hI
    obtain ⟨k, hk, rfl, hI⟩ := hrel
    obtain ⟨ps, hl, hlen, hps⟩ := hI.line
    have hne := hl.ne
    by_cases hlt : k < n
    · have eB := (hE.of_block (hI.fr.block _ hE.lt id)).cell hlt
      have eP := (hP.of_block (hI.fr.block _ hP.lt id)).cell hlt
      have eN := (hN.of_block (hI.fr.block _ hN.lt id)).cell hlt
      have n1 : g ≠ E := by have := hE.lt; omega
      have n2 : g ≠ PB := by have := hP.lt; omega
      have n3 : g ≠ NB := by have := hN.lt; omega
      have cL := hl.cell
      obtain ⟨t0, t1, t2⟩ := hl.at k (by omega)
      have tf := hl.gfree
      have hS := hl.setPlace k (by omega) (.pointer (some ⟨b k, 0, none⟩)) (P k) (N k)
      have b1 : (k : Int) < n := by omega
      generalize hbk : b k = bk at *
      generalize hpk : P k = pk at *
      generalize hnk : N k = nk at *
      have HK : Hid (b k = bk ∧ P k = pk ∧ N k = nk) := ⟨hbk, hpk, hnk⟩
      generalize (ps[k]).1 = z0 at t0
      generalize (ps[k]).2.1 = z1 at t1
      generalize (ps[k]).2.2 = z2 at t2
      clear hbk hpk hnk
      go_wp2_with fail
      go_region_held3 (fun v : World => v.cell? ⟨L, 0, none⟩ = some (.slice (some ⟨g, 0, none⟩) n n) ∧ v.cell? ⟨E, k, none⟩ = some (.pointer (some ⟨bk, 0, none⟩)) ∧ v.cell? ⟨PB, k, none⟩ = some (.int .i64 pk) ∧ v.cell? ⟨NB, k, none⟩ = some (.int .i64 nk))
        (first | go_keep)
        (fail)
      go_wp2_with fail
      go_roundw
      case rel =>
        refine ⟨k + 1, by omega, by go_num, ⟨⟨_, hS.drew, by simp [hlen], ?_⟩, ?_, hI.low⟩⟩
        · intro j hj
          by_cases e : j = k
          · subst e
            rw [List.getElem?_set_self (by omega), HK.out.1, HK.out.2.1, HK.out.2.2]
            rfl
          · rw [List.getElem?_set_ne (Ne.symm e)]
            exact hps j (by omega)
        · refine ⟨hI.fr.os, hI.fr.tape, hI.fr.output, ?_, fun j hj _ => ?_⟩
          · show w.heap.size ≤ (((wr.setCell _ _).setCell _ _).setCell _ _).heap.size
            simpa [World.setCell] using hI.fr.size
          · have hjg : j ≠ g := by omega
            exact (Below.heap_setCell _ _ _ _ hjg).trans ((Below.heap_setCell _ _ _ _ hjg).trans ((Below.heap_setCell _ _ _ _ hjg).trans (hI.fr.block j hj id)))
      case measure => simp [intOf]; omega
    · have ek : n = k := by omega
      subst ek
      go_wp2_with fail
      go_ret
      exact ⟨L, g, rfl, hI⟩
end Go.Proofs.Qxb6626088a
