import Derived.Test.Qxb6627537aTrim
namespace Go.Proofs.Qxb6627537a
open Go.RowKit

theorem Try.info24 : (Try.prog.info? 24).map (fun i => (i.zero, i.size, i.bytes)) = some (some (.int .u64 0), 1, 8) := by kernel_rfl

/-- ts is the intersection's words. -/
structure IsInter (ts xs ys : List Nat) : Prop where
  canon : Canon ts
  at' : ∀ i, ts.getD i 0 = xs.getD i 0 &&& ys.getD i 0

def InterPost (xs ys : List Nat) (w : World) (e : Ending) (w' : World) : Prop := ∃ r ts, e = .returned (.agg #[r]) ∧ Words w' r ts ∧ IsInter ts xs ys ∧ Kept w w'

theorem getD_over (xs : List Nat) (i : Nat) (h : xs.length ≤ i) : xs.getD i 0 = 0 := by
  rw [List.getD_eq_getElem?_getD, List.getElem?_eq_none h]; rfl

theorem sub_inter {xs ys : List Nat} (h : Sub xs ys) (hc : Canon xs) : IsInter xs xs ys := ⟨hc, fun i => by
  by_cases hi : i < xs.length
  · exact (h.2 i hi).symm
  · rw [getD_over xs i (by omega), Nat.zero_and]⟩
theorem sub_inter' {xs ys : List Nat} (h : Sub ys xs) (hc : Canon ys) : IsInter ys xs ys := ⟨hc, fun i => by
  by_cases hi : i < ys.length
  · rw [Nat.and_comm]; exact (h.2 i hi).symm
  · rw [getD_over ys i (by omega), Nat.and_zero]⟩

/-- The three variables of the call. -/
structure Box (w W : World) (H0 H1 H2 : Nat) (u v r : Value) : Prop where
  b0 : W.heap[H0]? = some (.cells #[u] 27 (0, 0))
  b1 : W.heap[H1]? = some (.cells #[v] 27 (0, 0))
  b2 : W.heap[H2]? = some (.cells #[r] 27 (0, 0))
  l2 : w.heap.size ≤ H2
  k : Kept w W
section
variable {w W : World} {H0 H1 H2 : Nat} {u v r : Value}
theorem Box.keep {W' : World} (h : Box w W H0 H1 H2 u v r) (k : Kept W W') : Box w W' H0 H1 H2 u v r :=
  ⟨(k.block _ (Array.getElem?_eq_some_iff.1 h.b0).1).trans h.b0, (k.block _ (Array.getElem?_eq_some_iff.1 h.b1).1).trans h.b1, (k.block _ (Array.getElem?_eq_some_iff.1 h.b2).1).trans h.b2, h.l2, h.k.trans k⟩
theorem Box.cells (h : Box w W H0 H1 H2 u v r) : W.cell? ⟨H0, 0, none⟩ = some u ∧ W.cell? ⟨H1, 0, none⟩ = some v ∧ W.cell? ⟨H2, 0, none⟩ = some r ∧ W.frozen? ⟨H2, 0, none⟩ = false := by
  refine ⟨?_, ?_, ?_, frozen_of_row W _ _ _ _ h.b2⟩
  · rw [cell_of_row _ _ _ _ _ _ h.b0]; rfl
  · rw [cell_of_row _ _ _ _ _ _ h.b1]; rfl
  · rw [cell_of_row _ _ _ _ _ _ h.b2]; rfl
/-- Behind the result's store. -/
theorem Box.fin (h : Box w W H0 H1 H2 u v r) (x : Value) : Kept w (W.setCell ⟨H2, 0, none⟩ x) ∧ (W.setCell ⟨H2, 0, none⟩ x).cell? ⟨H2, 0, none⟩ = some x := by
  refine ⟨h.k.set _ _ _ h.l2, ?_⟩
  have hb : (W.setCell ⟨H2, 0, none⟩ x).heap[H2]? = some (.cells #[x] 27 (0, 0)) := by
    obtain ⟨hlt, h'⟩ := Array.getElem?_eq_some_iff.1 h.b2
    show (W.heap.modify H2 _)[H2]? = _
    rw [Array.getElem?_eq_getElem (by simpa using hlt), Array.getElem_modify_self, h']
    rfl
  rw [cell_of_row _ _ _ _ _ _ hb]; rfl
end
theorem Box.start (w : World) (u v r : Value) : Box w (((w.alloc (.cells #[u] 27)).alloc (.cells #[v] 27)).alloc (.cells #[r] 27)) w.heap.size (w.heap.size + 1) (w.heap.size + 1 + 1) u v r := by
  have e0 := heap_alloc_new w (.cells #[u] 27)
  have e1 := heap_alloc_new (w.alloc (.cells #[u] 27)) (.cells #[v] 27)
  have e2 := heap_alloc_new ((w.alloc (.cells #[u] 27)).alloc (.cells #[v] 27)) (.cells #[r] 27)
  simp only [World.size_alloc] at e1 e2
  exact ⟨(Below.heap_alloc _ _ _ (by simp; omega)).trans ((Below.heap_alloc _ _ _ (by simp)).trans e0), (Below.heap_alloc _ _ _ (by simp)).trans e1, e2, by omega, ((Kept.alloc _ _).trans (Kept.alloc _ _)).trans (Kept.alloc _ _)⟩

theorem Words.setOther {W : World} {v : Value} {ts : List Nat} (h : Words W v ts) (H : Nat) (a : Option Addr) (n c : Nat) (hb : W.heap[H]? = some (.cells #[.slice a n c] 27 (0, 0))) (x : Value) : Words (W.setCell ⟨H, 0, none⟩ x) v ts := by
  obtain ⟨a, cap, hv, hc⟩ := h.val
  refine ⟨⟨a, cap, hv, fun h0 => ?_⟩, h.range⟩
  obtain ⟨b, off, ha, hlt, hx⟩ := hc h0
  have hne : b ≠ H := by
    rintro rfl
    have := hx 0 h0
    rw [cell_of_row _ _ _ _ _ _ hb] at this
    by_cases e : off = 0
    · subst e; simp at this
    · rw [Array.getElem?_eq_none (by simp; omega)] at this
      cases this
  exact ⟨b, off, ha, by simpa [World.setCell] using hlt, fun i hi => (World.cell?_of_block (Below.heap_setCell _ _ _ _ hne)).trans (hx i hi)⟩

/-- While the words are laid. -/
structure LoopI (W wr : World) (G q k : Nat) (xs ys : List Nat) : Prop where
  row : ∃ f, wr.rowIs G 24 q f ∧ ∀ i, i < k → f i = .int .u64 ((xs.getD i 0 &&& ys.getD i 0 : Nat) : Int)
  kept : Kept W wr
  low : W.heap.size ≤ G
theorem LoopI.start (W : World) (q : Nat) (xs ys : List Nat) : LoopI W (W.alloc (.cells (madeCells #[.int .u64 0] q) 24)) W.heap.size q 0 xs ys :=
  ⟨⟨_, World.rowIs_made W _ q 24, fun i hi => by omega⟩, Kept.alloc _ _, Nat.le_refl _⟩
theorem LoopI.open {W wr : World} {G q k : Nat} {xs ys : List Nat} (h : LoopI W wr G q k xs ys) (hk : k < q) : (∃ v, wr.cell? ⟨G, k, none⟩ = some v) ∧ wr.frozen? ⟨G, k, none⟩ = false := by
  obtain ⟨f, hf, _⟩ := h.row
  exact ⟨⟨_, hf.cell hk⟩, hf.frozen k⟩
theorem LoopI.step {W wr : World} {G q k : Nat} {xs ys : List Nat} (h : LoopI W wr G q k xs ys) : LoopI W (wr.setCell ⟨G, k, none⟩ (.int .u64 ((xs.getD k 0 &&& ys.getD k 0 : Nat) : Int))).drew G q (k + 1) xs ys := by
  obtain ⟨f, hf, ha⟩ := h.row
  refine ⟨⟨_, (hf.set k _).drew, fun i hi => ?_⟩, (h.kept.set _ _ _ h.low).drew, h.low⟩
  by_cases e : i = k
  · simp [e]
  · simp only [e, if_false]; exact ha i (by omega)

/-- The words, as a list. -/
def zipAnd (q : Nat) (xs ys : List Nat) : List Nat := (List.range q).map fun i => xs.getD i 0 &&& ys.getD i 0
theorem zipAnd_getD (q : Nat) (xs ys : List Nat) (hq : xs.length ≤ q ∨ ys.length ≤ q) (i : Nat) : (zipAnd q xs ys).getD i 0 = xs.getD i 0 &&& ys.getD i 0 := by
  by_cases h : i < q
  · simp [zipAnd, List.getD_eq_getElem?_getD, h]
  · rw [getD_over _ _ (by simp [zipAnd]; omega)]
    rcases hq with h2 | h2
    · rw [getD_over xs i (by omega), Nat.zero_and]
    · rw [getD_over ys i (by omega), Nat.and_zero]
theorem zipAnd_at (q : Nat) (xs ys : List Nat) (i : Nat) (h : i < q) : (zipAnd q xs ys).getD i 0 = xs.getD i 0 &&& ys.getD i 0 := by simp [zipAnd, List.getD_eq_getElem?_getD, h]

set_option maxHeartbeats 1600000 in
set_option maxRecDepth 100000 in
theorem inter_any (u v : Value) (xs ys : List Nat) (w : World) (hu : Words w u xs) (hv : Words w v ys) (hx1 : xs.length ≤ 1048576) (hy1 : ys.length ≤ 1048576) (hcx : Canon xs) (hcy : Canon ys) :
    Calls Try.prog 8 #[.agg #[u], .agg #[v]] w (InterPost xs ys w) := by
  obtain ⟨i0, hi, hz0, hz1, hz2⟩ := info_parts Try.info24
  have HU : Hid (Words w u xs) := hu
  have HV : Hid (Words w v ys) := hv
  obtain ⟨a, cap, eu, hx⟩ := hu.val
  obtain ⟨a2, cap2, ev, hy⟩ := hv.val
  obtain ⟨n, hlen⟩ : ∃ n, xs.length = n := ⟨_, rfl⟩
  obtain ⟨m, hlen2⟩ : ∃ m, ys.length = m := ⟨_, rfl⟩
  rw [hlen] at hx hx1 eu
  rw [hlen2] at hy hy1 ev
  subst eu
  subst ev
  have HX : Hid (0 < n → ∃ b off, a = some ⟨b, off, none⟩ ∧ b < w.heap.size ∧ ∀ i, i < n → w.cell? ⟨b, off + i, none⟩ = some (.int .u64 (xs.getD i 0 : Nat))) := hx
  have HY : Hid (0 < m → ∃ b off, a2 = some ⟨b, off, none⟩ ∧ b < w.heap.size ∧ ∀ i, i < m → w.cell? ⟨b, off + i, none⟩ = some (.int .u64 (ys.getD i 0 : Nat))) := hy
  clear hu hv hx hy
  have HL : Hid (xs.length = n ∧ ys.length = m) := ⟨hlen, hlen2⟩
  have HCX : Hid (Canon xs ∧ Canon ys) := ⟨hcx, hcy⟩
  clear hlen hlen2 hcx hcy
  go_enter Try.func8, Try.ntmps8
  go_wp2_with fail
  have B0 := Box.start w (.slice a n cap) (.slice a2 m cap2) (.slice none 0 0)
  generalize ((w.alloc (.cells #[.slice a n cap] 27)).alloc (.cells #[.slice a2 m cap2] 27)).alloc (.cells #[.slice none 0 0] 27) = W at B0 ⊢
  generalize w.heap.size + 1 + 1 = H2 at B0 ⊢
  generalize w.heap.size + 1 = H1 at B0 ⊢
  generalize w.heap.size = H0 at B0 ⊢
  refine (sub_any _ _ xs ys _ (HU.out.kept B0.k) (HV.out.kept B0.k) (by rw [HL.out.1]; exact hx1) (by rw [HL.out.2]; exact hy1)).mono ?_
  rintro e W1 ⟨r, rfl, hs, k1⟩
  have B1 := B0.keep k1
  clear B0 k1
  cases r
  · clear hs
    obtain ⟨c0, c1, c2, c3⟩ := B1.cells
    go_wp2_with fail
    refine (sub_any _ _ ys xs _ (HV.out.kept B1.k) (HU.out.kept B1.k) (by rw [HL.out.2]; exact hy1) (by rw [HL.out.1]; exact hx1)).mono ?_
    rintro e W2 ⟨r, rfl, hs, k2⟩
    have B2 := B1.keep k2
    clear B1 k2 c0 c1 c2 c3
    cases r
    · clear hs
      obtain ⟨c0, c1, c2, c3⟩ := B2.cells
      by_cases hmn : m < n
      · have HQ : Hid (m < n) := hmn
        go_wp2_with (at_make; refine wpList_make_row _ rfl (.tmp 23) (.tmp 23) 22 rfl 24 i0 (.int .u64 0) Try.underlying22 hi hz0 hz1 rfl .i64 .i64 m rfl rfl (by rw [hz2]; omega) (by omega) ?_)
        have hI := LoopI.start W2 m xs ys
        generalize W2.alloc (.cells (madeCells #[.int .u64 0] m) 24) = W3 at hI ⊢
        have g0 : W2.heap.size ≠ H0 := by have := (Array.getElem?_eq_some_iff.1 B2.b0).1; omega
        have g1 : W2.heap.size ≠ H1 := by have := (Array.getElem?_eq_some_iff.1 B2.b1).1; omega
        have HG : Hid (w.heap.size ≤ W2.heap.size) := B2.k.size
        generalize W2.heap.size = G at hI g0 g1 HG ⊢
        have HB : Hid (Box w W2 H0 H1 H2 (.slice a n cap) (.slice a2 m cap2) (.slice none 0 0)) := B2
        clear B2 c0 c1 c2 c3
        go_wp2_with fail
        go_loopw [27] (fun i wr => ∃ k : Nat, k ≤ m ∧ i = .int .i64 k ∧ LoopI W2 wr G m k xs ys) (fun i _ => m - (intOf i).toNat)
        case atStart => exact ⟨0, by omega, rfl, hI⟩
        case round =>
          clear hI
          obtain ⟨k, hk, rfl, hI⟩ := hrel
          have B3 := HB.out.keep hI.kept
          by_cases hlt : k < m
          · obtain ⟨b, off, rfl, hb, hx⟩ := HX.out (by omega)
            obtain ⟨b', off', rfl, hb', hy⟩ := HY.out (by omega)
            have x0 := hx k (by omega)
            have y0 := hy k (by omega)
            rw [← B3.k.cell _ (by exact hb)] at x0
            rw [← B3.k.cell _ (by exact hb')] at y0
            have g2 : G ≠ b := by have := HG.out; omega
            have g3 : G ≠ b' := by have := HG.out; omega
            obtain ⟨c0, c1, _, _⟩ := B3.cells
            obtain ⟨⟨ov, o1⟩, o2⟩ := hI.open hlt
            have hS := hI.step
            have r0 := HU.out.get k
            have r1 := HV.out.get k
            generalize xs.getD k 0 = x at x0 r0 hS
            generalize ys.getD k 0 = y at y0 r1 hS
            have hbit := u64_and_nat x y r0 r1
            have b1 : (k : Int) < m := by omega
            have b2 : (k : Int) < n := by omega
            have b3 : (k : Int) < m := by omega
            clear hx hy B3 hI
            go_wp2_with fail
            go_region_held3 (fun v : World => v.cell? ⟨H0, 0, none⟩ = some (.slice (some ⟨b, off, none⟩) n cap) ∧ v.cell? ⟨H1, 0, none⟩ = some (.slice (some ⟨b', off', none⟩) m cap2) ∧ v.cell? ⟨b, off + k, none⟩ = some (.int .u64 (x : Int)) ∧ v.cell? ⟨b', off' + k, none⟩ = some (.int .u64 (y : Int)))
              (first | go_keep)
              (fail)
            go_wp2_with fail
            go_roundw
            case rel => exact ⟨k + 1, by omega, by go_num, hS⟩
            case measure => simp [intOf]; omega
          · have ek : m = k := by omega
            subst ek
            obtain ⟨f, hf, ha⟩ := hI.row
            have hz : wr.rowIs G 24 m (fun i => .int .u64 ((zipAnd m xs ys).getD i 0 : Nat)) := hf.congr fun i hi => by rw [ha i hi, zipAnd_at _ _ _ _ hi]
            have HZ : Hid (∀ x ∈ zipAnd m xs ys, x < 18446744073709551616) := fun x hx => by
              simp only [zipAnd, List.mem_map] at hx
              obtain ⟨i, _, rfl⟩ := hx
              exact Nat.lt_of_le_of_lt Nat.and_le_left (HU.out.get i)
            clear hf ha
            go_wp2_with fail
            refine (trim_any G m _ _ (by simp [zipAnd]) (by omega) HZ.out hz).mono ?_
            rintro e W4 ⟨rv, ts, rfl, hw, hcn, hat, _, rfl⟩
            obtain ⟨c0, c1, c2, c3⟩ := B3.cells
            obtain ⟨f1, f2⟩ := B3.fin rv
            have HF : Hid (IsInter ts xs ys) := ⟨hcn, fun i => by rw [hat i]; exact zipAnd_getD _ _ _ (by rw [HL.out.1, HL.out.2]; omega) i⟩
            obtain ⟨ra, rcap, rfl, rh⟩ := hw.val
            have HW : Hid (Words (W4.setCell ⟨H2, 0, none⟩ (.slice ra ts.length rcap)) (.slice ra ts.length rcap) ts) := hw.setOther H2 _ _ _ B3.b2 _
            have HK : Hid (Kept w (W4.setCell ⟨H2, 0, none⟩ (.slice ra ts.length rcap))) := f1
            clear hcn hat hw rh f1 hz
            go_wp2_with fail
            exact bodyPost_ret (v := .agg #[.slice ra ts.length rcap]) (by simp [results, Try.results8, go_sem, f2]) rfl ⟨_, ts, rfl, HW.out, HF.out, HK.out⟩
      · have HQ : Hid (¬ m < n) := hmn
        go_wp2_with (at_make; refine wpList_make_row _ rfl (.tmp 23) (.tmp 23) 22 rfl 24 i0 (.int .u64 0) Try.underlying22 hi hz0 hz1 rfl .i64 .i64 n rfl rfl (by rw [hz2]; omega) (by omega) ?_)
        have hI := LoopI.start W2 n xs ys
        generalize W2.alloc (.cells (madeCells #[.int .u64 0] n) 24) = W3 at hI ⊢
        have g0 : W2.heap.size ≠ H0 := by have := (Array.getElem?_eq_some_iff.1 B2.b0).1; omega
        have g1 : W2.heap.size ≠ H1 := by have := (Array.getElem?_eq_some_iff.1 B2.b1).1; omega
        have HG : Hid (w.heap.size ≤ W2.heap.size) := B2.k.size
        generalize W2.heap.size = G at hI g0 g1 HG ⊢
        have HB : Hid (Box w W2 H0 H1 H2 (.slice a n cap) (.slice a2 m cap2) (.slice none 0 0)) := B2
        clear B2 c0 c1 c2 c3
        go_wp2_with fail
        go_loopw [27] (fun i wr => ∃ k : Nat, k ≤ n ∧ i = .int .i64 k ∧ LoopI W2 wr G n k xs ys) (fun i _ => n - (intOf i).toNat)
        case atStart => exact ⟨0, by omega, rfl, hI⟩
        case round =>
          clear hI
          obtain ⟨k, hk, rfl, hI⟩ := hrel
          have B3 := HB.out.keep hI.kept
          by_cases hlt : k < n
          · obtain ⟨b, off, rfl, hb, hx⟩ := HX.out (by omega)
            obtain ⟨b', off', rfl, hb', hy⟩ := HY.out (by omega)
            have x0 := hx k (by omega)
            have y0 := hy k (by omega)
            rw [← B3.k.cell _ (by exact hb)] at x0
            rw [← B3.k.cell _ (by exact hb')] at y0
            have g2 : G ≠ b := by have := HG.out; omega
            have g3 : G ≠ b' := by have := HG.out; omega
            obtain ⟨c0, c1, _, _⟩ := B3.cells
            obtain ⟨⟨ov, o1⟩, o2⟩ := hI.open hlt
            have hS := hI.step
            have r0 := HU.out.get k
            have r1 := HV.out.get k
            generalize xs.getD k 0 = x at x0 r0 hS
            generalize ys.getD k 0 = y at y0 r1 hS
            have hbit := u64_and_nat x y r0 r1
            have b1 : (k : Int) < n := by omega
            have b2 : (k : Int) < n := by omega
            have b3 : (k : Int) < m := by omega
            clear hx hy B3 hI
            go_wp2_with fail
            go_region_held3 (fun v : World => v.cell? ⟨H0, 0, none⟩ = some (.slice (some ⟨b, off, none⟩) n cap) ∧ v.cell? ⟨H1, 0, none⟩ = some (.slice (some ⟨b', off', none⟩) m cap2) ∧ v.cell? ⟨b, off + k, none⟩ = some (.int .u64 (x : Int)) ∧ v.cell? ⟨b', off' + k, none⟩ = some (.int .u64 (y : Int)))
              (first | go_keep)
              (fail)
            go_wp2_with fail
            go_roundw
            case rel => exact ⟨k + 1, by omega, by go_num, hS⟩
            case measure => simp [intOf]; omega
          · have ek : n = k := by omega
            subst ek
            obtain ⟨f, hf, ha⟩ := hI.row
            have hz : wr.rowIs G 24 n (fun i => .int .u64 ((zipAnd n xs ys).getD i 0 : Nat)) := hf.congr fun i hi => by rw [ha i hi, zipAnd_at _ _ _ _ hi]
            have HZ : Hid (∀ x ∈ zipAnd n xs ys, x < 18446744073709551616) := fun x hx => by
              simp only [zipAnd, List.mem_map] at hx
              obtain ⟨i, _, rfl⟩ := hx
              exact Nat.lt_of_le_of_lt Nat.and_le_left (HU.out.get i)
            clear hf ha
            go_wp2_with fail
            refine (trim_any G n _ _ (by simp [zipAnd]) (by omega) HZ.out hz).mono ?_
            rintro e W4 ⟨rv, ts, rfl, hw, hcn, hat, _, rfl⟩
            obtain ⟨c0, c1, c2, c3⟩ := B3.cells
            obtain ⟨f1, f2⟩ := B3.fin rv
            have HF : Hid (IsInter ts xs ys) := ⟨hcn, fun i => by rw [hat i]; exact zipAnd_getD _ _ _ (by rw [HL.out.1, HL.out.2]; omega) i⟩
            obtain ⟨ra, rcap, rfl, rh⟩ := hw.val
            have HW : Hid (Words (W4.setCell ⟨H2, 0, none⟩ (.slice ra ts.length rcap)) (.slice ra ts.length rcap) ts) := hw.setOther H2 _ _ _ B3.b2 _
            have HK : Hid (Kept w (W4.setCell ⟨H2, 0, none⟩ (.slice ra ts.length rcap))) := f1
            clear hcn hat hw rh f1 hz
            go_wp2_with fail
            exact bodyPost_ret (v := .agg #[.slice ra ts.length rcap]) (by simp [results, Try.results8, go_sem, f2]) rfl ⟨_, ts, rfl, HW.out, HF.out, HK.out⟩
    · have hS := hs rfl
      obtain ⟨c0, c1, c2, c3⟩ := B2.cells
      obtain ⟨f1, f2⟩ := B2.fin (.slice a2 m cap2)
      have HF : Hid (IsInter ys xs ys ∧ Kept w (W2.setCell ⟨H2, 0, none⟩ (.slice a2 m cap2))) := ⟨sub_inter' hS HCX.out.2, f1⟩
      clear hs hS f1
      go_wp2_with fail
      exact bodyPost_ret (v := .agg #[.slice a2 m cap2]) (by simp [results, Try.results8, go_sem, f2]) rfl ⟨_, ys, rfl, HV.out.kept HF.out.2, HF.out.1, HF.out.2⟩
  · have hS := hs rfl
    obtain ⟨c0, c1, c2, c3⟩ := B1.cells
    obtain ⟨f1, f2⟩ := B1.fin (.slice a n cap)
    have HF : Hid (IsInter xs xs ys ∧ Kept w (W1.setCell ⟨H2, 0, none⟩ (.slice a n cap))) := ⟨sub_inter hS HCX.out.1, f1⟩
    clear hs hS f1
    go_wp2_with fail
    exact bodyPost_ret (v := .agg #[.slice a n cap]) (by simp [results, Try.results8, go_sem, f2]) rfl ⟨_, xs, rfl, HU.out.kept HF.out.2, HF.out.1, HF.out.2⟩
end Go.Proofs.Qxb6627537a
