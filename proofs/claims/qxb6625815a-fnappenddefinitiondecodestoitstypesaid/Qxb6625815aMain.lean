import Derived.Test.Qxb6625815aAll
namespace Go.Proofs.Qxb6625815a
open Go.RowKit

set_option maxHeartbeats 4000000 in
set_option maxRecDepth 100000 in
theorem mainN (ab : Option Addr) (lb cb : Nat) (bs : List UInt8) (id kd el ky ln : Int) (nm : ByteArray) (fa : Option Addr) (nf fc : Nat) (fs : List (ByteArray × Int)) (w : World) (hlb : lb ≤ 9223372036854775807) (hb : BIn w ab lb cb bs) (hF : FIn w (.slice fa nf fc) fs) (hnm : nm.size ≤ 9223372036854775807)
    (hsz : ∀ f ∈ fs, f.1.size ≤ 9223372036854775807 ∧ -9223372036854775808 ≤ f.2 ∧ f.2 ≤ 9223372036854775807) (r0 : -9223372036854775808 ≤ id) (r1 : id ≤ 9223372036854775807) (r2 : -9223372036854775808 ≤ el) (r3 : el ≤ 9223372036854775807) (r4 : -9223372036854775808 ≤ ky) (r5 : ky ≤ 9223372036854775807) (r6 : -9223372036854775808 ≤ ln) (r7 : ln ≤ 9223372036854775807)
    (hk2 : (kd == 2) = false) :
    Calls Try.prog 3 #[.slice ab lb cb, .agg #[.int .i64 id, .string nm, .int .i64 kd, .slice fa nf fc, .int .i64 el, .int .i64 ky, .int .i64 ln]] w fun e w' => e = .returned (.bool true) ∧ Below w.heap.size w w' := by
  have hBx : Below w.heap.size w (w.alloc (.cells #[.int .i64 id, .string nm, .int .i64 kd, .slice fa nf fc, .int .i64 el, .int .i64 ky, .int .i64 ln] 25)) := (Below.refl _ _).alloc (Nat.le_refl _) _
  have hX : (w.alloc (.cells #[.int .i64 id, .string nm, .int .i64 kd, .slice fa nf fc, .int .i64 el, .int .i64 ky, .int .i64 ln] 25)).heap[w.heap.size]? = some (.cells #[.int .i64 id, .string nm, .int .i64 kd, .slice fa nf fc, .int .i64 el, .int .i64 ky, .int .i64 ln] 25 (0, 0)) := heap_alloc_new w _
  have HSZ : Hid (∀ f ∈ fs, f.1.size ≤ 9223372036854775807 ∧ -9223372036854775808 ≤ f.2 ∧ f.2 ≤ 9223372036854775807) := hsz
  clear hsz
  go_enter Try.func3, Try.ntmps3
  go_wp2_with fail
  refine (bytesAll id kd el ky ln nm (.slice fa nf fc) fs _ ab lb cb (hF.below hBx) hlb hnm (fun f hf => (HSZ.out f hf).1)).mono ?_
  rintro e w1 ⟨⟨bo, rfl⟩, hB1⟩
  have X1 := (hB1.block w.heap.size (by simp)).trans hX
  have B1 : Below w.heap.size w w1 := hBx.trans (hB1.mono (by simp))
  have s1 := hB1.size
  simp only [World.size_alloc] at s1
  clear hBx hX hB1
  have x0 : w1.cell? ⟨w.heap.size, 0, none⟩ = some (.int .i64 id) := by rw [cell_of_row _ _ _ _ _ _ X1]; rfl
  have x1 : w1.cell? ⟨w.heap.size, 1, none⟩ = some (.string nm) := by rw [cell_of_row _ _ _ _ _ _ X1]; rfl
  have x2 : w1.cell? ⟨w.heap.size, 2, none⟩ = some (.int .i64 kd) := by rw [cell_of_row _ _ _ _ _ _ X1]; rfl
  have x3 : w1.cell? ⟨w.heap.size, 3, none⟩ = some (.slice fa nf fc) := by rw [cell_of_row _ _ _ _ _ _ X1]; rfl
  have x4 : w1.cell? ⟨w.heap.size, 4, none⟩ = some (.int .i64 el) := by rw [cell_of_row _ _ _ _ _ _ X1]; rfl
  have x5 : w1.cell? ⟨w.heap.size, 5, none⟩ = some (.int .i64 ky) := by rw [cell_of_row _ _ _ _ _ _ X1]; rfl
  have x6 : w1.cell? ⟨w.heap.size, 6, none⟩ = some (.int .i64 ln) := by rw [cell_of_row _ _ _ _ _ _ X1]; rfl
  cases bo
  · go_wp2
    go_ret
    exact ⟨rfl, B1⟩
  by_cases h1 : 1048576 < lb
  · go_wp2
    go_ret
    exact ⟨rfl, B1⟩
  go_wp2_with fail
  refine (addAll id kd el ky ln nm (.slice fa nf fc) fs w1 lb (hF.below B1) (by omega) (by omega) hnm (fun f hf => (HSZ.out f hf).1)).mono ?_
  rintro e w2 ⟨r, rfl, hr, hB2'⟩
  have X2 := (hB2'.block w.heap.size (by omega)).trans X1
  have hB2 : Below w.heap.size w w2 := B1.trans (hB2'.mono (by omega))
  have s2 := hB2.size
  have s2' := hB2'.size
  clear hB2' X1 B1 x0 x1 x2 x3 x4 x5 x6
  have x0 : w2.cell? ⟨w.heap.size, 0, none⟩ = some (.int .i64 id) := by rw [cell_of_row _ _ _ _ _ _ X2]; rfl
  have x1 : w2.cell? ⟨w.heap.size, 1, none⟩ = some (.string nm) := by rw [cell_of_row _ _ _ _ _ _ X2]; rfl
  have x2 : w2.cell? ⟨w.heap.size, 2, none⟩ = some (.int .i64 kd) := by rw [cell_of_row _ _ _ _ _ _ X2]; rfl
  have x3 : w2.cell? ⟨w.heap.size, 3, none⟩ = some (.slice fa nf fc) := by rw [cell_of_row _ _ _ _ _ _ X2]; rfl
  have x4 : w2.cell? ⟨w.heap.size, 4, none⟩ = some (.int .i64 el) := by rw [cell_of_row _ _ _ _ _ _ X2]; rfl
  have x5 : w2.cell? ⟨w.heap.size, 5, none⟩ = some (.int .i64 ky) := by rw [cell_of_row _ _ _ _ _ _ X2]; rfl
  have x6 : w2.cell? ⟨w.heap.size, 6, none⟩ = some (.int .i64 ln) := by rw [cell_of_row _ _ _ _ _ _ X2]; rfl
  by_cases h2 : 1048576 < r
  · go_wp2
    go_ret
    exact ⟨rfl, hB2⟩
  have hsum := hr (by omega)
  have hfl := sumN_len fs
  clear hr
  by_cases h3 : id < 1
  · go_wp2
    go_ret
    exact ⟨rfl, hB2⟩
  by_cases h4 : kd < 0
  · go_wp2
    go_ret
    exact ⟨rfl, hB2⟩
  by_cases h5 : 3 < kd
  · go_wp2
    go_ret
    exact ⟨rfl, hB2⟩
  by_cases h6 : el = 0
  · subst h6
    rcases (show kd = 0 ∨ kd = 1 ∨ kd = 3 by have : kd ≠ 2 := (beq_eq_false_iff_ne.1 hk2); omega) with rfl | rfl | rfl
    all_goals
      go_wp2
      go_ret
      exact ⟨rfl, hB2⟩
  have h6b : (el == 0) = false := beq_eq_false_iff_ne.2 h6
  by_cases h7 : kd = 3 ∧ ky = 0
  · obtain ⟨rfl, rfl⟩ := h7
    go_wp2
    go_ret
    exact ⟨rfl, hB2⟩
  have G : Good ⟨id, nm, kd, fs, el, ky, ln⟩ := ⟨by show 1 ≤ id; omega, r1, by show 0 ≤ kd; omega, by show kd ≤ 3; omega, r2, r3, r4, r5, r6, r7, fun _ => h6, fun h e => h7 ⟨h, e⟩, fun h => absurd h (beq_eq_false_iff_ne.1 hk2), fun f hf => ⟨by have := sumN_mem fs f hf; omega, (HSZ.out f hf).2⟩⟩
  have h7b : kd = 3 → (ky == 0) = false := fun h => beq_eq_false_iff_ne.2 (fun e => h7 ⟨h, e⟩)
  clear h7
  rcases (show kd = 0 ∨ kd = 1 ∨ kd = 3 by have : kd ≠ 2 := (beq_eq_false_iff_ne.1 hk2); omega) with rfl | rfl | rfl
  · clear h7b
    have hbl : bs.length ≤ 1048576 := by rw [hb.1]; omega
    go_wp2_with fail
    refine (cloneAll ab lb cb bs w2 (hb.below hB2) (by omega)).mono ?_
    rintro e w3 ⟨vw, rfl, hCw, hB3⟩
    have s3 := hB3.size
    have X3 := (hB3.block w.heap.size (by omega)).trans X2
    have B3 : Below w.heap.size w w3 := hB2.trans (hB3.mono s2)
    go_wp2_with fail
    refine (cloneAll ab lb cb bs w3 (hb.below B3) (by omega)).mono ?_
    rintro e w4 ⟨vb, rfl, hCb, hB4⟩
    have s4 := hB4.size
    have X4 := (hB4.block w.heap.size (by omega)).trans X3
    have B4 : Below w.heap.size w w4 := B3.trans (hB4.mono (by omega))
    clear x0 x1 x2 x3 x4 x5 x6
    have x0 : w4.cell? ⟨w.heap.size, 0, none⟩ = some (.int .i64 id) := by rw [cell_of_row _ _ _ _ _ _ X4]; rfl
    have x1 : w4.cell? ⟨w.heap.size, 1, none⟩ = some (.string nm) := by rw [cell_of_row _ _ _ _ _ _ X4]; rfl
    have x2 : w4.cell? ⟨w.heap.size, 2, none⟩ = some (.int .i64 0) := by rw [cell_of_row _ _ _ _ _ _ X4]; rfl
    have x3 : w4.cell? ⟨w.heap.size, 3, none⟩ = some (.slice fa nf fc) := by rw [cell_of_row _ _ _ _ _ _ X4]; rfl
    have x4 : w4.cell? ⟨w.heap.size, 4, none⟩ = some (.int .i64 el) := by rw [cell_of_row _ _ _ _ _ _ X4]; rfl
    have x5 : w4.cell? ⟨w.heap.size, 5, none⟩ = some (.int .i64 ky) := by rw [cell_of_row _ _ _ _ _ _ X4]; rfl
    have x6 : w4.cell? ⟨w.heap.size, 6, none⟩ = some (.int .i64 ln) := by rw [cell_of_row _ _ _ _ _ _ X4]; rfl
    go_wp2_with fail
    refine (buildAll id 0 el ky ln nm (.slice fa nf fc) fs w4 (hF.below B4) (by omega)).mono ?_
    rintro e w5 ⟨tb, fv', rfl, bt⟩
    have s5 := bt.bel.size
    have X5 := (bt.bel.block w.heap.size (by omega)).trans X4
    have B5 : Below w.heap.size w w5 := B4.trans (bt.bel.mono (by omega))
    have ob := hCb.owns (by omega)
    have ob5 := ownsRow_below ob bt.bel
    have hvb : ∀ k, vb.ownBlock = some k → w3.heap.size ≤ k ∧ k < w4.heap.size := fun k hk => ob.lt k hk
    clear x0 x1 x2 x3 x4 x5 x6
    go_wp2_with fail
    refine (defAll w3.heap.size vb bs tb ⟨id, nm, 0, fs, el, ky, ln⟩ fv' w5 G (by show nm.size + sumN fs ≤ 1048576; omega) bt.ty (fun e => by have := hvb tb e; have := bt.lt; omega) bt.fields (fun fb hfb e => by have := hvb fb e; have := bt.own fb hfb; omega) ob5 (by omega) (by omega)).mono ?_
    rintro e w6 ⟨v6, rfl, a6⟩
    obtain ⟨dl1, dl2⟩ := defn_len ⟨id, nm, 0, fs, el, ky, ln⟩ G (by show nm.size + sumN fs ≤ 1048576; omega)
    obtain ⟨g, cap, rfl, hgB, hg⟩ := a6.own.form (by omega)
    have s6 := a6.grow.size
    have hcap : bs.length + (Enc.defn ⟨id, nm, 0, fs, el, ky, ln⟩).length ≤ cap := by
      rcases a6.own.2 with ⟨h, _⟩ | ⟨g0, c0, cur, hv, _, _, hle, _⟩
      · cases h
      · simp only [Value.slice.injEq, Option.some.injEq, Addr.mk.injEq, true_and, and_true] at hv
        obtain ⟨rfl, rfl⟩ := hv
        exact hle
    have keep6 : ∀ k, k < w3.heap.size → w6.heap[k]? = w3.heap[k]? := fun k hk => by
      rw [a6.grow.block k (by omega) (fun e => by have := hvb k e.symm; omega), bt.bel.block k (by omega), hB4.block k hk]
    have B6 : Below w.heap.size w w6 := B5.trans ⟨a6.grow.os, a6.grow.tape, a6.grow.output, s6, fun k hk => a6.grow.block k (by omega) (fun e => by have := hvb k e.symm; omega)⟩
    have X6 := (keep6 w.heap.size (by omega)).trans X3
    have hall : Bytes w6 g 0 (bs ++ Enc.defn ⟨id, nm, 0, fs, el, ky, ln⟩) := by
      intro j b hj
      have := a6.own.cells (g := g) rfl j (.int .u8 b.toNat) (by simp only [Lib.byteCells, List.getElem?_map, hj, Option.map_some])
      rwa [add0, ← Nat.zero_add j] at this
    have hby1 : Bytes w6 g 0 bs := fun j b hj => hall j b (by rw [List.getElem?_append_left (List.getElem?_eq_some_iff.1 hj).1]; exact hj)
    have hby2 : Bytes w6 g bs.length (Enc.defn ⟨id, nm, 0, fs, el, ky, ln⟩) := fun j b hj => by
      have := hall (bs.length + j) b (by rw [List.getElem?_append_right (by omega), show bs.length + j - bs.length = j by omega]; exact hj)
      rwa [Nat.zero_add] at this
    have hE : ∀ cc, Calls Try.prog 10 #[.slice (some ⟨g, 0, none⟩) bs.length cc, vw] w6 fun e w' => e = .returned (.bool true) ∧ ∃ q, w' = w6.drewN q := by
      intro cc
      rcases hCw with ⟨rfl, rfl⟩ | ⟨rfl, hblk⟩
      · exact equal_none _ _ _ _ _
      · refine equal_yes g 0 cc w2.heap.size 0 bs.length bs.length bs w6 rfl (by omega) hby1 ?_
        intro j b hj
        rw [Nat.zero_add, cell_of_row _ _ _ _ _ _ ((keep6 w2.heap.size (Array.getElem?_eq_some_iff.1 hblk).1).trans hblk)]
        simp only [List.getElem?_toArray, Lib.byteCells, List.getElem?_map, hj, Option.map_some]
    obtain ⟨vp, vc, rfl⟩ : ∃ vp vc, vw = .slice vp bs.length vc := by
      rcases hCw with ⟨rfl, rfl⟩ | ⟨rfl, _⟩
      · exact ⟨none, 0, rfl⟩
      · exact ⟨_, _, rfl⟩
    have HE : Hid (∀ cc, Calls Try.prog 10 #[.slice (some ⟨g, 0, none⟩) bs.length cc, .slice vp bs.length vc] w6 fun e w' => e = .returned (.bool true) ∧ ∃ q, w' = w6.drewN q) := hE
    have HD : Hid (∀ q, Calls Try.prog 11 #[.slice (some ⟨g, bs.length, none⟩) (Enc.defn ⟨id, nm, 0, fs, el, ky, ln⟩).length (cap - bs.length)] (w6.drewN q) (Decoded ⟨id, nm, 0, fs, el, ky, ln⟩ (.slice fa nf fc) (w6.drewN q))) := fun q =>
      decode g bs.length (cap - bs.length) _ _ (w6.drewN q) hby2 ⟨id, nm, 0, fs, el, ky, ln⟩ (.slice fa nf fc) G (FIn.below hF (W := w6.drewN q) ⟨B6.os, B6.tape, B6.output, B6.size, B6.block⟩) (by show fs.length ≤ 1048576; omega) rfl rfl (by omega) (by omega)
    have HBS : Hid (bs.length = lb) := hb.1
    clear hE hall hby1 hby2 hCw hCb ob ob5 hvb keep6 a6 bt hgB
    have x0 : w6.cell? ⟨w.heap.size, 0, none⟩ = some (.int .i64 id) := by rw [cell_of_row _ _ _ _ _ _ X6]; rfl
    have x1 : w6.cell? ⟨w.heap.size, 1, none⟩ = some (.string nm) := by rw [cell_of_row _ _ _ _ _ _ X6]; rfl
    have x2 : w6.cell? ⟨w.heap.size, 2, none⟩ = some (.int .i64 0) := by rw [cell_of_row _ _ _ _ _ _ X6]; rfl
    have x3 : w6.cell? ⟨w.heap.size, 3, none⟩ = some (.slice fa nf fc) := by rw [cell_of_row _ _ _ _ _ _ X6]; rfl
    have x4 : w6.cell? ⟨w.heap.size, 4, none⟩ = some (.int .i64 el) := by rw [cell_of_row _ _ _ _ _ _ X6]; rfl
    have x5 : w6.cell? ⟨w.heap.size, 5, none⟩ = some (.int .i64 ky) := by rw [cell_of_row _ _ _ _ _ _ X6]; rfl
    have x6 : w6.cell? ⟨w.heap.size, 6, none⟩ = some (.int .i64 ln) := by rw [cell_of_row _ _ _ _ _ _ X6]; rfl
    generalize (Enc.defn ⟨id, nm, 0, fs, el, ky, ln⟩).length = L at *
    generalize bs.length = n0 at *
    go_wp2_with fail
    refine (HE.out _).mono ?_
    rintro e w7 ⟨rfl, q, rfl⟩
    go_wp2_with fail
    refine (HD.out _).mono ?_
    rintro e w8 ⟨a0, s, a2, a3, a4, a5, a6', p1, n1, c1, p2, n2, c2, rfl, hB8, hM⟩
    have s8 : w6.heap.size ≤ w8.heap.size := hB8.size
    have X8 : w8.heap[w.heap.size]? = _ := (hB8.block w.heap.size (by show _ < w6.heap.size; omega)).trans X6
    have HM : Hid (∀ W, Below w8.heap.size w8 W → Calls Try.prog 12 #[.agg #[.int .i64 a0, .string s, .int .i64 a2, .int .i64 a3, .int .i64 a4, .int .i64 a5, .int .i64 a6', .slice p1 n1 c1, .slice p2 n2 c2], .agg #[.int .i64 id, .string nm, .int .i64 0, .slice fa nf fc, .int .i64 el, .int .i64 ky, .int .i64 ln]] W fun e W' => e = .returned (.bool true) ∧ Below W.heap.size W W') := hM
    have B8 : Below w.heap.size w w8 := B6.trans ((show Below w6.heap.size w6 w8 from ⟨hB8.os, hB8.tape, hB8.output, hB8.size, hB8.block⟩).mono (by omega))
    clear HD HE hM X2 X3 X4 X5 X6 x0 x1 x2 x3 x4 x5 x6
    have XA : ∀ o, (w8.alloc o).heap[w.heap.size]? = _ := fun o => (Below.heap_alloc _ _ _ (by omega)).trans X8
    have x0 : ∀ o, (w8.alloc o).cell? ⟨w.heap.size, 0, none⟩ = some (.int .i64 id) := fun o => by rw [cell_of_row _ _ _ _ _ _ (XA o)]; rfl
    have x1 : ∀ o, (w8.alloc o).cell? ⟨w.heap.size, 1, none⟩ = some (.string nm) := fun o => by rw [cell_of_row _ _ _ _ _ _ (XA o)]; rfl
    have x2 : ∀ o, (w8.alloc o).cell? ⟨w.heap.size, 2, none⟩ = some (.int .i64 0) := fun o => by rw [cell_of_row _ _ _ _ _ _ (XA o)]; rfl
    have x3 : ∀ o, (w8.alloc o).cell? ⟨w.heap.size, 3, none⟩ = some (.slice fa nf fc) := fun o => by rw [cell_of_row _ _ _ _ _ _ (XA o)]; rfl
    have x4 : ∀ o, (w8.alloc o).cell? ⟨w.heap.size, 4, none⟩ = some (.int .i64 el) := fun o => by rw [cell_of_row _ _ _ _ _ _ (XA o)]; rfl
    have x5 : ∀ o, (w8.alloc o).cell? ⟨w.heap.size, 5, none⟩ = some (.int .i64 ky) := fun o => by rw [cell_of_row _ _ _ _ _ _ (XA o)]; rfl
    have x6 : ∀ o, (w8.alloc o).cell? ⟨w.heap.size, 6, none⟩ = some (.int .i64 ln) := fun o => by rw [cell_of_row _ _ _ _ _ _ (XA o)]; rfl
    clear XA X8
    go_wp2_with fail
    refine (HM.out _ ((Below.refl _ _).alloc (Nat.le_refl _) _)).mono ?_
    rintro e w9 ⟨rfl, hB9⟩
    go_wp2
    go_ret
    exact ⟨rfl, (B8.alloc (by have := B8.size; omega) _).trans (hB9.mono (by have := B8.size; simp; omega))⟩
  · clear h7b
    have hbl : bs.length ≤ 1048576 := by rw [hb.1]; omega
    go_wp2_with fail
    refine (cloneAll ab lb cb bs w2 (hb.below hB2) (by omega)).mono ?_
    rintro e w3 ⟨vw, rfl, hCw, hB3⟩
    have s3 := hB3.size
    have X3 := (hB3.block w.heap.size (by omega)).trans X2
    have B3 : Below w.heap.size w w3 := hB2.trans (hB3.mono s2)
    go_wp2_with fail
    refine (cloneAll ab lb cb bs w3 (hb.below B3) (by omega)).mono ?_
    rintro e w4 ⟨vb, rfl, hCb, hB4⟩
    have s4 := hB4.size
    have X4 := (hB4.block w.heap.size (by omega)).trans X3
    have B4 : Below w.heap.size w w4 := B3.trans (hB4.mono (by omega))
    clear x0 x1 x2 x3 x4 x5 x6
    have x0 : w4.cell? ⟨w.heap.size, 0, none⟩ = some (.int .i64 id) := by rw [cell_of_row _ _ _ _ _ _ X4]; rfl
    have x1 : w4.cell? ⟨w.heap.size, 1, none⟩ = some (.string nm) := by rw [cell_of_row _ _ _ _ _ _ X4]; rfl
    have x2 : w4.cell? ⟨w.heap.size, 2, none⟩ = some (.int .i64 1) := by rw [cell_of_row _ _ _ _ _ _ X4]; rfl
    have x3 : w4.cell? ⟨w.heap.size, 3, none⟩ = some (.slice fa nf fc) := by rw [cell_of_row _ _ _ _ _ _ X4]; rfl
    have x4 : w4.cell? ⟨w.heap.size, 4, none⟩ = some (.int .i64 el) := by rw [cell_of_row _ _ _ _ _ _ X4]; rfl
    have x5 : w4.cell? ⟨w.heap.size, 5, none⟩ = some (.int .i64 ky) := by rw [cell_of_row _ _ _ _ _ _ X4]; rfl
    have x6 : w4.cell? ⟨w.heap.size, 6, none⟩ = some (.int .i64 ln) := by rw [cell_of_row _ _ _ _ _ _ X4]; rfl
    go_wp2_with fail
    refine (buildAll id 1 el ky ln nm (.slice fa nf fc) fs w4 (hF.below B4) (by omega)).mono ?_
    rintro e w5 ⟨tb, fv', rfl, bt⟩
    have s5 := bt.bel.size
    have X5 := (bt.bel.block w.heap.size (by omega)).trans X4
    have B5 : Below w.heap.size w w5 := B4.trans (bt.bel.mono (by omega))
    have ob := hCb.owns (by omega)
    have ob5 := ownsRow_below ob bt.bel
    have hvb : ∀ k, vb.ownBlock = some k → w3.heap.size ≤ k ∧ k < w4.heap.size := fun k hk => ob.lt k hk
    clear x0 x1 x2 x3 x4 x5 x6
    go_wp2_with fail
    refine (defAll w3.heap.size vb bs tb ⟨id, nm, 1, fs, el, ky, ln⟩ fv' w5 G (by show nm.size + sumN fs ≤ 1048576; omega) bt.ty (fun e => by have := hvb tb e; have := bt.lt; omega) bt.fields (fun fb hfb e => by have := hvb fb e; have := bt.own fb hfb; omega) ob5 (by omega) (by omega)).mono ?_
    rintro e w6 ⟨v6, rfl, a6⟩
    obtain ⟨dl1, dl2⟩ := defn_len ⟨id, nm, 1, fs, el, ky, ln⟩ G (by show nm.size + sumN fs ≤ 1048576; omega)
    obtain ⟨g, cap, rfl, hgB, hg⟩ := a6.own.form (by omega)
    have s6 := a6.grow.size
    have hcap : bs.length + (Enc.defn ⟨id, nm, 1, fs, el, ky, ln⟩).length ≤ cap := by
      rcases a6.own.2 with ⟨h, _⟩ | ⟨g0, c0, cur, hv, _, _, hle, _⟩
      · cases h
      · simp only [Value.slice.injEq, Option.some.injEq, Addr.mk.injEq, true_and, and_true] at hv
        obtain ⟨rfl, rfl⟩ := hv
        exact hle
    have keep6 : ∀ k, k < w3.heap.size → w6.heap[k]? = w3.heap[k]? := fun k hk => by
      rw [a6.grow.block k (by omega) (fun e => by have := hvb k e.symm; omega), bt.bel.block k (by omega), hB4.block k hk]
    have B6 : Below w.heap.size w w6 := B5.trans ⟨a6.grow.os, a6.grow.tape, a6.grow.output, s6, fun k hk => a6.grow.block k (by omega) (fun e => by have := hvb k e.symm; omega)⟩
    have X6 := (keep6 w.heap.size (by omega)).trans X3
    have hall : Bytes w6 g 0 (bs ++ Enc.defn ⟨id, nm, 1, fs, el, ky, ln⟩) := by
      intro j b hj
      have := a6.own.cells (g := g) rfl j (.int .u8 b.toNat) (by simp only [Lib.byteCells, List.getElem?_map, hj, Option.map_some])
      rwa [add0, ← Nat.zero_add j] at this
    have hby1 : Bytes w6 g 0 bs := fun j b hj => hall j b (by rw [List.getElem?_append_left (List.getElem?_eq_some_iff.1 hj).1]; exact hj)
    have hby2 : Bytes w6 g bs.length (Enc.defn ⟨id, nm, 1, fs, el, ky, ln⟩) := fun j b hj => by
      have := hall (bs.length + j) b (by rw [List.getElem?_append_right (by omega), show bs.length + j - bs.length = j by omega]; exact hj)
      rwa [Nat.zero_add] at this
    have hE : ∀ cc, Calls Try.prog 10 #[.slice (some ⟨g, 0, none⟩) bs.length cc, vw] w6 fun e w' => e = .returned (.bool true) ∧ ∃ q, w' = w6.drewN q := by
      intro cc
      rcases hCw with ⟨rfl, rfl⟩ | ⟨rfl, hblk⟩
      · exact equal_none _ _ _ _ _
      · refine equal_yes g 0 cc w2.heap.size 0 bs.length bs.length bs w6 rfl (by omega) hby1 ?_
        intro j b hj
        rw [Nat.zero_add, cell_of_row _ _ _ _ _ _ ((keep6 w2.heap.size (Array.getElem?_eq_some_iff.1 hblk).1).trans hblk)]
        simp only [List.getElem?_toArray, Lib.byteCells, List.getElem?_map, hj, Option.map_some]
    obtain ⟨vp, vc, rfl⟩ : ∃ vp vc, vw = .slice vp bs.length vc := by
      rcases hCw with ⟨rfl, rfl⟩ | ⟨rfl, _⟩
      · exact ⟨none, 0, rfl⟩
      · exact ⟨_, _, rfl⟩
    have HE : Hid (∀ cc, Calls Try.prog 10 #[.slice (some ⟨g, 0, none⟩) bs.length cc, .slice vp bs.length vc] w6 fun e w' => e = .returned (.bool true) ∧ ∃ q, w' = w6.drewN q) := hE
    have HD : Hid (∀ q, Calls Try.prog 11 #[.slice (some ⟨g, bs.length, none⟩) (Enc.defn ⟨id, nm, 1, fs, el, ky, ln⟩).length (cap - bs.length)] (w6.drewN q) (Decoded ⟨id, nm, 1, fs, el, ky, ln⟩ (.slice fa nf fc) (w6.drewN q))) := fun q =>
      decode g bs.length (cap - bs.length) _ _ (w6.drewN q) hby2 ⟨id, nm, 1, fs, el, ky, ln⟩ (.slice fa nf fc) G (FIn.below hF (W := w6.drewN q) ⟨B6.os, B6.tape, B6.output, B6.size, B6.block⟩) (by show fs.length ≤ 1048576; omega) rfl rfl (by omega) (by omega)
    have HBS : Hid (bs.length = lb) := hb.1
    clear hE hall hby1 hby2 hCw hCb ob ob5 hvb keep6 a6 bt hgB
    have x0 : w6.cell? ⟨w.heap.size, 0, none⟩ = some (.int .i64 id) := by rw [cell_of_row _ _ _ _ _ _ X6]; rfl
    have x1 : w6.cell? ⟨w.heap.size, 1, none⟩ = some (.string nm) := by rw [cell_of_row _ _ _ _ _ _ X6]; rfl
    have x2 : w6.cell? ⟨w.heap.size, 2, none⟩ = some (.int .i64 1) := by rw [cell_of_row _ _ _ _ _ _ X6]; rfl
    have x3 : w6.cell? ⟨w.heap.size, 3, none⟩ = some (.slice fa nf fc) := by rw [cell_of_row _ _ _ _ _ _ X6]; rfl
    have x4 : w6.cell? ⟨w.heap.size, 4, none⟩ = some (.int .i64 el) := by rw [cell_of_row _ _ _ _ _ _ X6]; rfl
    have x5 : w6.cell? ⟨w.heap.size, 5, none⟩ = some (.int .i64 ky) := by rw [cell_of_row _ _ _ _ _ _ X6]; rfl
    have x6 : w6.cell? ⟨w.heap.size, 6, none⟩ = some (.int .i64 ln) := by rw [cell_of_row _ _ _ _ _ _ X6]; rfl
    generalize (Enc.defn ⟨id, nm, 1, fs, el, ky, ln⟩).length = L at *
    generalize bs.length = n0 at *
    go_wp2_with fail
    refine (HE.out _).mono ?_
    rintro e w7 ⟨rfl, q, rfl⟩
    go_wp2_with fail
    refine (HD.out _).mono ?_
    rintro e w8 ⟨a0, s, a2, a3, a4, a5, a6', p1, n1, c1, p2, n2, c2, rfl, hB8, hM⟩
    have s8 : w6.heap.size ≤ w8.heap.size := hB8.size
    have X8 : w8.heap[w.heap.size]? = _ := (hB8.block w.heap.size (by show _ < w6.heap.size; omega)).trans X6
    have HM : Hid (∀ W, Below w8.heap.size w8 W → Calls Try.prog 12 #[.agg #[.int .i64 a0, .string s, .int .i64 a2, .int .i64 a3, .int .i64 a4, .int .i64 a5, .int .i64 a6', .slice p1 n1 c1, .slice p2 n2 c2], .agg #[.int .i64 id, .string nm, .int .i64 1, .slice fa nf fc, .int .i64 el, .int .i64 ky, .int .i64 ln]] W fun e W' => e = .returned (.bool true) ∧ Below W.heap.size W W') := hM
    have B8 : Below w.heap.size w w8 := B6.trans ((show Below w6.heap.size w6 w8 from ⟨hB8.os, hB8.tape, hB8.output, hB8.size, hB8.block⟩).mono (by omega))
    clear HD HE hM X2 X3 X4 X5 X6 x0 x1 x2 x3 x4 x5 x6
    have XA : ∀ o, (w8.alloc o).heap[w.heap.size]? = _ := fun o => (Below.heap_alloc _ _ _ (by omega)).trans X8
    have x0 : ∀ o, (w8.alloc o).cell? ⟨w.heap.size, 0, none⟩ = some (.int .i64 id) := fun o => by rw [cell_of_row _ _ _ _ _ _ (XA o)]; rfl
    have x1 : ∀ o, (w8.alloc o).cell? ⟨w.heap.size, 1, none⟩ = some (.string nm) := fun o => by rw [cell_of_row _ _ _ _ _ _ (XA o)]; rfl
    have x2 : ∀ o, (w8.alloc o).cell? ⟨w.heap.size, 2, none⟩ = some (.int .i64 1) := fun o => by rw [cell_of_row _ _ _ _ _ _ (XA o)]; rfl
    have x3 : ∀ o, (w8.alloc o).cell? ⟨w.heap.size, 3, none⟩ = some (.slice fa nf fc) := fun o => by rw [cell_of_row _ _ _ _ _ _ (XA o)]; rfl
    have x4 : ∀ o, (w8.alloc o).cell? ⟨w.heap.size, 4, none⟩ = some (.int .i64 el) := fun o => by rw [cell_of_row _ _ _ _ _ _ (XA o)]; rfl
    have x5 : ∀ o, (w8.alloc o).cell? ⟨w.heap.size, 5, none⟩ = some (.int .i64 ky) := fun o => by rw [cell_of_row _ _ _ _ _ _ (XA o)]; rfl
    have x6 : ∀ o, (w8.alloc o).cell? ⟨w.heap.size, 6, none⟩ = some (.int .i64 ln) := fun o => by rw [cell_of_row _ _ _ _ _ _ (XA o)]; rfl
    clear XA X8
    go_wp2_with fail
    refine (HM.out _ ((Below.refl _ _).alloc (Nat.le_refl _) _)).mono ?_
    rintro e w9 ⟨rfl, hB9⟩
    go_wp2
    go_ret
    exact ⟨rfl, (B8.alloc (by have := B8.size; omega) _).trans (hB9.mono (by have := B8.size; simp; omega))⟩
  · have h7c := h7b rfl
    clear h7b
    have hbl : bs.length ≤ 1048576 := by rw [hb.1]; omega
    go_wp2_with fail
    refine (cloneAll ab lb cb bs w2 (hb.below hB2) (by omega)).mono ?_
    rintro e w3 ⟨vw, rfl, hCw, hB3⟩
    have s3 := hB3.size
    have X3 := (hB3.block w.heap.size (by omega)).trans X2
    have B3 : Below w.heap.size w w3 := hB2.trans (hB3.mono s2)
    go_wp2_with fail
    refine (cloneAll ab lb cb bs w3 (hb.below B3) (by omega)).mono ?_
    rintro e w4 ⟨vb, rfl, hCb, hB4⟩
    have s4 := hB4.size
    have X4 := (hB4.block w.heap.size (by omega)).trans X3
    have B4 : Below w.heap.size w w4 := B3.trans (hB4.mono (by omega))
    clear x0 x1 x2 x3 x4 x5 x6
    have x0 : w4.cell? ⟨w.heap.size, 0, none⟩ = some (.int .i64 id) := by rw [cell_of_row _ _ _ _ _ _ X4]; rfl
    have x1 : w4.cell? ⟨w.heap.size, 1, none⟩ = some (.string nm) := by rw [cell_of_row _ _ _ _ _ _ X4]; rfl
    have x2 : w4.cell? ⟨w.heap.size, 2, none⟩ = some (.int .i64 3) := by rw [cell_of_row _ _ _ _ _ _ X4]; rfl
    have x3 : w4.cell? ⟨w.heap.size, 3, none⟩ = some (.slice fa nf fc) := by rw [cell_of_row _ _ _ _ _ _ X4]; rfl
    have x4 : w4.cell? ⟨w.heap.size, 4, none⟩ = some (.int .i64 el) := by rw [cell_of_row _ _ _ _ _ _ X4]; rfl
    have x5 : w4.cell? ⟨w.heap.size, 5, none⟩ = some (.int .i64 ky) := by rw [cell_of_row _ _ _ _ _ _ X4]; rfl
    have x6 : w4.cell? ⟨w.heap.size, 6, none⟩ = some (.int .i64 ln) := by rw [cell_of_row _ _ _ _ _ _ X4]; rfl
    go_wp2_with fail
    refine (buildAll id 3 el ky ln nm (.slice fa nf fc) fs w4 (hF.below B4) (by omega)).mono ?_
    rintro e w5 ⟨tb, fv', rfl, bt⟩
    have s5 := bt.bel.size
    have X5 := (bt.bel.block w.heap.size (by omega)).trans X4
    have B5 : Below w.heap.size w w5 := B4.trans (bt.bel.mono (by omega))
    have ob := hCb.owns (by omega)
    have ob5 := ownsRow_below ob bt.bel
    have hvb : ∀ k, vb.ownBlock = some k → w3.heap.size ≤ k ∧ k < w4.heap.size := fun k hk => ob.lt k hk
    clear x0 x1 x2 x3 x4 x5 x6
    go_wp2_with fail
    refine (defAll w3.heap.size vb bs tb ⟨id, nm, 3, fs, el, ky, ln⟩ fv' w5 G (by show nm.size + sumN fs ≤ 1048576; omega) bt.ty (fun e => by have := hvb tb e; have := bt.lt; omega) bt.fields (fun fb hfb e => by have := hvb fb e; have := bt.own fb hfb; omega) ob5 (by omega) (by omega)).mono ?_
    rintro e w6 ⟨v6, rfl, a6⟩
    obtain ⟨dl1, dl2⟩ := defn_len ⟨id, nm, 3, fs, el, ky, ln⟩ G (by show nm.size + sumN fs ≤ 1048576; omega)
    obtain ⟨g, cap, rfl, hgB, hg⟩ := a6.own.form (by omega)
    have s6 := a6.grow.size
    have hcap : bs.length + (Enc.defn ⟨id, nm, 3, fs, el, ky, ln⟩).length ≤ cap := by
      rcases a6.own.2 with ⟨h, _⟩ | ⟨g0, c0, cur, hv, _, _, hle, _⟩
      · cases h
      · simp only [Value.slice.injEq, Option.some.injEq, Addr.mk.injEq, true_and, and_true] at hv
        obtain ⟨rfl, rfl⟩ := hv
        exact hle
    have keep6 : ∀ k, k < w3.heap.size → w6.heap[k]? = w3.heap[k]? := fun k hk => by
      rw [a6.grow.block k (by omega) (fun e => by have := hvb k e.symm; omega), bt.bel.block k (by omega), hB4.block k hk]
    have B6 : Below w.heap.size w w6 := B5.trans ⟨a6.grow.os, a6.grow.tape, a6.grow.output, s6, fun k hk => a6.grow.block k (by omega) (fun e => by have := hvb k e.symm; omega)⟩
    have X6 := (keep6 w.heap.size (by omega)).trans X3
    have hall : Bytes w6 g 0 (bs ++ Enc.defn ⟨id, nm, 3, fs, el, ky, ln⟩) := by
      intro j b hj
      have := a6.own.cells (g := g) rfl j (.int .u8 b.toNat) (by simp only [Lib.byteCells, List.getElem?_map, hj, Option.map_some])
      rwa [add0, ← Nat.zero_add j] at this
    have hby1 : Bytes w6 g 0 bs := fun j b hj => hall j b (by rw [List.getElem?_append_left (List.getElem?_eq_some_iff.1 hj).1]; exact hj)
    have hby2 : Bytes w6 g bs.length (Enc.defn ⟨id, nm, 3, fs, el, ky, ln⟩) := fun j b hj => by
      have := hall (bs.length + j) b (by rw [List.getElem?_append_right (by omega), show bs.length + j - bs.length = j by omega]; exact hj)
      rwa [Nat.zero_add] at this
    have hE : ∀ cc, Calls Try.prog 10 #[.slice (some ⟨g, 0, none⟩) bs.length cc, vw] w6 fun e w' => e = .returned (.bool true) ∧ ∃ q, w' = w6.drewN q := by
      intro cc
      rcases hCw with ⟨rfl, rfl⟩ | ⟨rfl, hblk⟩
      · exact equal_none _ _ _ _ _
      · refine equal_yes g 0 cc w2.heap.size 0 bs.length bs.length bs w6 rfl (by omega) hby1 ?_
        intro j b hj
        rw [Nat.zero_add, cell_of_row _ _ _ _ _ _ ((keep6 w2.heap.size (Array.getElem?_eq_some_iff.1 hblk).1).trans hblk)]
        simp only [List.getElem?_toArray, Lib.byteCells, List.getElem?_map, hj, Option.map_some]
    obtain ⟨vp, vc, rfl⟩ : ∃ vp vc, vw = .slice vp bs.length vc := by
      rcases hCw with ⟨rfl, rfl⟩ | ⟨rfl, _⟩
      · exact ⟨none, 0, rfl⟩
      · exact ⟨_, _, rfl⟩
    have HE : Hid (∀ cc, Calls Try.prog 10 #[.slice (some ⟨g, 0, none⟩) bs.length cc, .slice vp bs.length vc] w6 fun e w' => e = .returned (.bool true) ∧ ∃ q, w' = w6.drewN q) := hE
    have HD : Hid (∀ q, Calls Try.prog 11 #[.slice (some ⟨g, bs.length, none⟩) (Enc.defn ⟨id, nm, 3, fs, el, ky, ln⟩).length (cap - bs.length)] (w6.drewN q) (Decoded ⟨id, nm, 3, fs, el, ky, ln⟩ (.slice fa nf fc) (w6.drewN q))) := fun q =>
      decode g bs.length (cap - bs.length) _ _ (w6.drewN q) hby2 ⟨id, nm, 3, fs, el, ky, ln⟩ (.slice fa nf fc) G (FIn.below hF (W := w6.drewN q) ⟨B6.os, B6.tape, B6.output, B6.size, B6.block⟩) (by show fs.length ≤ 1048576; omega) rfl rfl (by omega) (by omega)
    have HBS : Hid (bs.length = lb) := hb.1
    clear hE hall hby1 hby2 hCw hCb ob ob5 hvb keep6 a6 bt hgB
    have x0 : w6.cell? ⟨w.heap.size, 0, none⟩ = some (.int .i64 id) := by rw [cell_of_row _ _ _ _ _ _ X6]; rfl
    have x1 : w6.cell? ⟨w.heap.size, 1, none⟩ = some (.string nm) := by rw [cell_of_row _ _ _ _ _ _ X6]; rfl
    have x2 : w6.cell? ⟨w.heap.size, 2, none⟩ = some (.int .i64 3) := by rw [cell_of_row _ _ _ _ _ _ X6]; rfl
    have x3 : w6.cell? ⟨w.heap.size, 3, none⟩ = some (.slice fa nf fc) := by rw [cell_of_row _ _ _ _ _ _ X6]; rfl
    have x4 : w6.cell? ⟨w.heap.size, 4, none⟩ = some (.int .i64 el) := by rw [cell_of_row _ _ _ _ _ _ X6]; rfl
    have x5 : w6.cell? ⟨w.heap.size, 5, none⟩ = some (.int .i64 ky) := by rw [cell_of_row _ _ _ _ _ _ X6]; rfl
    have x6 : w6.cell? ⟨w.heap.size, 6, none⟩ = some (.int .i64 ln) := by rw [cell_of_row _ _ _ _ _ _ X6]; rfl
    generalize (Enc.defn ⟨id, nm, 3, fs, el, ky, ln⟩).length = L at *
    generalize bs.length = n0 at *
    go_wp2_with fail
    refine (HE.out _).mono ?_
    rintro e w7 ⟨rfl, q, rfl⟩
    go_wp2_with fail
    refine (HD.out _).mono ?_
    rintro e w8 ⟨a0, s, a2, a3, a4, a5, a6', p1, n1, c1, p2, n2, c2, rfl, hB8, hM⟩
    have s8 : w6.heap.size ≤ w8.heap.size := hB8.size
    have X8 : w8.heap[w.heap.size]? = _ := (hB8.block w.heap.size (by show _ < w6.heap.size; omega)).trans X6
    have HM : Hid (∀ W, Below w8.heap.size w8 W → Calls Try.prog 12 #[.agg #[.int .i64 a0, .string s, .int .i64 a2, .int .i64 a3, .int .i64 a4, .int .i64 a5, .int .i64 a6', .slice p1 n1 c1, .slice p2 n2 c2], .agg #[.int .i64 id, .string nm, .int .i64 3, .slice fa nf fc, .int .i64 el, .int .i64 ky, .int .i64 ln]] W fun e W' => e = .returned (.bool true) ∧ Below W.heap.size W W') := hM
    have B8 : Below w.heap.size w w8 := B6.trans ((show Below w6.heap.size w6 w8 from ⟨hB8.os, hB8.tape, hB8.output, hB8.size, hB8.block⟩).mono (by omega))
    clear HD HE hM X2 X3 X4 X5 X6 x0 x1 x2 x3 x4 x5 x6
    have XA : ∀ o, (w8.alloc o).heap[w.heap.size]? = _ := fun o => (Below.heap_alloc _ _ _ (by omega)).trans X8
    have x0 : ∀ o, (w8.alloc o).cell? ⟨w.heap.size, 0, none⟩ = some (.int .i64 id) := fun o => by rw [cell_of_row _ _ _ _ _ _ (XA o)]; rfl
    have x1 : ∀ o, (w8.alloc o).cell? ⟨w.heap.size, 1, none⟩ = some (.string nm) := fun o => by rw [cell_of_row _ _ _ _ _ _ (XA o)]; rfl
    have x2 : ∀ o, (w8.alloc o).cell? ⟨w.heap.size, 2, none⟩ = some (.int .i64 3) := fun o => by rw [cell_of_row _ _ _ _ _ _ (XA o)]; rfl
    have x3 : ∀ o, (w8.alloc o).cell? ⟨w.heap.size, 3, none⟩ = some (.slice fa nf fc) := fun o => by rw [cell_of_row _ _ _ _ _ _ (XA o)]; rfl
    have x4 : ∀ o, (w8.alloc o).cell? ⟨w.heap.size, 4, none⟩ = some (.int .i64 el) := fun o => by rw [cell_of_row _ _ _ _ _ _ (XA o)]; rfl
    have x5 : ∀ o, (w8.alloc o).cell? ⟨w.heap.size, 5, none⟩ = some (.int .i64 ky) := fun o => by rw [cell_of_row _ _ _ _ _ _ (XA o)]; rfl
    have x6 : ∀ o, (w8.alloc o).cell? ⟨w.heap.size, 6, none⟩ = some (.int .i64 ln) := fun o => by rw [cell_of_row _ _ _ _ _ _ (XA o)]; rfl
    clear XA X8
    go_wp2_with fail
    refine (HM.out _ ((Below.refl _ _).alloc (Nat.le_refl _) _)).mono ?_
    rintro e w9 ⟨rfl, hB9⟩
    go_wp2
    go_ret
    exact ⟨rfl, (B8.alloc (by have := B8.size; omega) _).trans (hB9.mono (by have := B8.size; simp; omega))⟩
end Go.Proofs.Qxb6625815a
