import Derived.Test.Qxb6625815aRows
import Derived.Test.Qxb6625815aShelf
import Derived.Test.Qxb6625815aPlain
import Derived.WalkKit
import Derived.BigQuiet
import Derived.Deep.QuietTactic
import Derived.Deep.AppendLies
import Derived.Deep.RegionWith
namespace Go.Proofs.Qxb6625815a
open Go.RowKit

theorem Try.info5 : (Try.prog.info? 5).map (fun i => (i.zero, i.size, i.bytes)) = some (some (.int .u8 0), 1, 1) := by kernel_rfl

theorem add0 (g j : Nat) : (⟨g, 0, none⟩ : Addr).add j = ⟨g, j, none⟩ := by unfold Addr.add; split <;> simp_all
theorem cell_one_alloc (w : World) (v : Value) (t : TypeId) : ∀ j u, ([v] : List Value)[j]? = some u → (w.alloc (.cells #[v] t)).cell? ((⟨w.heap.size, 0, none⟩ : Addr).add j) = some u :=
  fun j u hj => World.news_of_block (heap_alloc_new w _) j u hj
theorem grown_pre {w w' : World} {o : Obj} {row : Option Nat} (h : (w.alloc o).grownBy w' row) : w.grownBy w' row :=
  ⟨h.os, h.tape, h.output, by have := h.size; simp at this; omega, fun k hk hne => by rw [h.block k (by simp; omega) hne, Below.heap_alloc _ _ _ hk]⟩

theorem grownBy_setCell (w : World) (H o : Nat) (u : Value) : w.grownBy (w.setCell ⟨H, o, none⟩ u) (some H) :=
  ⟨rfl, rfl, rfl, by simp [World.setCell], fun k _ hne => Below.heap_setCell _ _ _ _ (fun e => hne (by rw [e]))⟩

/-- What an appending function leaves: v' owns xs and then ys; no block but v's row has turned; v' lies in v's row or in a new block. -/
structure App (B : Nat) (w w' : World) (v v' : Value) (xs ys : List UInt8) : Prop where
  own : w'.ownsRow B 5 1 v' (xs.length + ys.length) (Lib.byteCells (xs ++ ys))
  grow : w.grownBy w' v.ownBlock
  lies : v'.ownBlock = v.ownBlock ∨ ∃ g, v'.ownBlock = some g ∧ w.heap.size ≤ g

theorem App.trans {B : Nat} {w w1 w2 : World} {v v1 v2 : Value} {xs ys zs : List UInt8} (h : App B w w1 v v1 xs ys) (k : App B w1 w2 v1 v2 (xs ++ ys) zs) : App B w w2 v v2 xs (ys ++ zs) := by
  refine ⟨?_, ⟨k.grow.os.trans h.grow.os, k.grow.tape.trans h.grow.tape, k.grow.output.trans h.grow.output, Nat.le_trans h.grow.size k.grow.size, ?_⟩, ?_⟩
  · have := k.own
    simpa [Nat.add_assoc, List.append_assoc] using this
  · intro b hb hne
    rw [k.grow.block b (Nat.lt_of_lt_of_le hb h.grow.size) ?_, h.grow.block b hb hne]
    rcases h.lies with e | ⟨g, e, hg⟩
    · rw [e]; exact hne
    · rw [e]; intro e'; cases e'; omega
  · have hs := h.grow.size
    rcases k.lies with e | ⟨g, e, hg⟩
    · rw [e]; exact h.lies
    · exact .inr ⟨g, e, by omega⟩

set_option maxHeartbeats 400000 in
set_option maxRecDepth 100000 in
theorem appendUint_small (B : Nat) (v : Value) (xs : List UInt8) (x : Nat) (w : World) (hx : x < 128) (hown : w.ownsRow B 5 1 v xs.length (Lib.byteCells xs)) (hB : B ≤ w.heap.size) (hl : xs.length ≤ 100000000) :
    Calls Try.prog 16 #[v, .int .u64 x] w fun e w' => ∃ v', e = .returned v' ∧ App B w w' v v' xs (Enc.uint x) := by
  obtain ⟨i0, hi, hz0, hz1, hz2⟩ := info_parts Try.info5
  go_enter Try.func16, Try.ntmps16
  go_wp2_with (at_builtin; refine wpList_append_lies _ rfl (.tmp 9) (.tmp 12) 22 rfl B 5 i0 (.int .u8 0) 1 1 Try.underlying22 hi hz0 hz1 hz2 rfl (by decide) _ xs.length (Lib.byteCells xs) rfl ?c0 ⟨w.heap.size, 0, none⟩ 1 1 [.int .u8 x] rfl rfl ?c1 ?c2 ?c3 ?c4 ?c5 ?c6 (w.heap.size + 1) ?c8 ?_)
  case c0 => exact hown.alloc _
  case c1 => exact cell_one_alloc _ _ _
  case c2 => simp [Value.oneCell']
  case c3 => omega
  case c4 => unfold maxLen; omega
  case c5 => omega
  case c6 => simp; omega
  case c8 => simp
  intro g cap w1 hown1 hgrow hat hlt
  have key : App B w w1 v (.slice (some ⟨g, 0, none⟩) (xs.length + 1) cap) xs (Enc.uint x) := by
    rw [Enc.uint_small x hx]
    refine ⟨?_, grown_pre hgrow, ?_⟩
    · rw [Lib.byteCells_append, show Lib.byteCells [x.toUInt8] = [Value.int .u8 x] by simp [Lib.byteCells]; omega]
      exact hown1
    · rcases hat with e | e
      · exact .inl e.symm
      · exact .inr ⟨g, rfl, by omega⟩
  clear hown1 hgrow hat
  go_wp2
  go_ret
  exact ⟨_, rfl, key⟩

/-- The nine cells behind PutUint64. -/
structure Put (w w2 : World) (x : Nat) : Prop where
  cell : ∀ j, j < 9 → ∃ u, w2.cell? ⟨w.heap.size, j, none⟩ = some u
  here : ∀ j (hj : j < 8), w2.cell? ⟨w.heap.size, 1 + j, none⟩ = some (.int .u8 (((Lib.beBytes 8 x)[j]'(by rw [Lib.beBytes_length]; exact hj)).toNat : Int))
  free : ∀ j, w2.frozen? ⟨w.heap.size, j, none⟩ = false
  size : w2.heap.size = w.heap.size + 2
  bel : Below w.heap.size w w2

theorem setCells_size (g : Nat) : ∀ (vs : List Value) (o : Nat) (w : World), (w.setCells g o vs).heap.size = w.heap.size
  | [], _, _ => rfl
  | v :: r, o, w => by rw [World.setCells, setCells_size g r (o + 1)]; simp [World.setCell]

/-- PutUint64 into the last eight of the nine cells that were just laid. -/
theorem put64 (x : Nat) (w : World) (hx2 : x < 18446744073709551616) (cs : Array Value) (hcs : cs.size = 9) (T : TypeId) :
    Calls Try.prog 22 #[.agg #[], .slice (some ⟨w.heap.size, 1, none⟩) 8 8, .int .u64 x] (w.alloc (.cells cs T)).drew fun e w' => e = .returned (.tuple #[]) ∧ Put w w' x := by
  have hb : (w.alloc (.cells cs T)).heap[w.heap.size]? = some (.cells cs T (0, 0)) := heap_alloc_new w _
  have hc : ∀ j, j < 9 → (w.alloc (.cells cs T)).drew.cell? ⟨w.heap.size, j, none⟩ = some (cs.getD j undef) := by
    intro j hj
    show (w.alloc (.cells cs T)).cell? _ = _
    rw [cell_of_row _ _ _ _ _ _ hb]
    simp [Array.getD, hcs, hj]
  have hf : ∀ j, (w.alloc (.cells cs T)).drew.frozen? ⟨w.heap.size, j, none⟩ = false := fun j => frozen_of_row _ _ j _ _ hb
  refine (Any.binary_BE_PutUint64 lays43 w.heap.size 1 8 8 x hx2 _ _ _ _ _ _ _ _ _ (by omega) (hc 1 (by omega)) (hc 2 (by omega)) (hc 3 (by omega)) (hc 4 (by omega)) (hc 5 (by omega)) (hc 6 (by omega)) (hc 7 (by omega)) (hc 8 (by omega))
    (hf 1) (hf 2) (hf 3) (hf 4) (hf 5) (hf 6) (hf 7) (hf 8)).mono ?_
  rintro e w' ⟨rfl, rfl⟩
  refine ⟨rfl, ?_⟩
  have hl : (Lib.byteCells (Lib.beBytes 8 x)).length = 8 := by rw [Lib.byteCells_length, Lib.beBytes_length]
  have hc2 : ∀ j, j < 9 → ((w.alloc (.cells cs T)).drew.alloc (.cells #[] (ren43.t 37))).cell? ⟨w.heap.size, j, none⟩ = some (cs.getD j undef) := fun j hj => by
    rw [← hc j hj]
    exact World.cell?_of_block (Below.heap_alloc _ _ _ (by show _ < (w.alloc _).heap.size; simp))
  have hin := World.cell?_setCells_in w.heap.size (Lib.byteCells (Lib.beBytes 8 x)) 1 ((w.alloc (.cells cs T)).drew.alloc (.cells #[] (ren43.t 37))) (fun j hj => by rw [hc2 _ (by omega)]; rfl)
  have here : ∀ j (hj : j < 8), (((w.alloc (.cells cs T)).drew.alloc (.cells #[] (ren43.t 37))).setCells w.heap.size 1 (Lib.byteCells (Lib.beBytes 8 x))).cell? ⟨w.heap.size, 1 + j, none⟩ = some (.int .u8 (((Lib.beBytes 8 x)[j]'(by rw [Lib.beBytes_length]; exact hj)).toNat : Int)) := by
    intro j hj
    rw [hin j (by omega)]
    simp [Lib.byteCells]
  refine ⟨?_, here, ?_, ?_, ?_⟩
  · intro j hj
    rcases Nat.eq_zero_or_pos j with rfl | h
    · exact ⟨_, (World.cell?_setCells_out _ _ _ _ _ (fun _ _ => .inl (by simp))).trans (hc2 0 (by omega))⟩
    · have := here (j - 1) (by omega)
      rw [show 1 + (j - 1) = j by omega] at this
      exact ⟨_, this⟩
  · intro j
    rw [World.frozen?_setCells]
    exact (World.frozen?_of_block (Below.heap_alloc _ _ _ (by show _ < (w.alloc _).heap.size; simp))).trans (hf j)
  · rw [setCells_size]; simp
  · exact (((Below.refl _ _).alloc (Nat.le_refl _) _).drew.alloc (by simp) _).trans (Lib.below_setCells_w (Nat.le_refl _) _ _ _)

/-- 'buf[8-n:]' of a nine-byte array. -/
theorem slice9 (H n : Nat) (hn : n ≤ 8) (W : World) : (Instr.sliceAt 63 (.pointer (some ⟨H, 0, none⟩)) (some (.int .i64 (8 - (n : Int)))) none none).run Try.prog W = .ok (.slice (some ⟨H, 8 - n, none⟩) (n + 1) (n + 1)) W := by
  have e : Try.prog.arrayLen 63 = 9 := by kernel_rfl
  have el : Try.prog.elem 63 = 5 := by kernel_rfl
  rw [run_sliceAt_array_l W 63 ⟨H, 0, none⟩ (by kernel_rfl) .i64 (8 - (n : Int)) (by omega) (by rw [e]; omega), e, el]
  have hs : (sizeOf 5).run Try.prog W = .ok 1 W := by kernel_rfl
  rw [hs]
  have e1 : (8 - (n : Int)).toNat = 8 - n := by omega
  simp only [Result.andThen_ok, slicedAt, e1, Nat.mul_one]
  rw [if_neg (by omega), add0, show 9 - (8 - n) = n + 1 by omega]

/-- The bytes that AppendUint appends, as they lie in the nine cells. -/
theorem big_cells (x : Nat) (hx : 128 ≤ x) (hx2 : x < 18446744073709551616) (w w2 : World) (put : Put w w2 x) (n : Nat) (hn : n = Enc.nb x) :
    ∀ j u, (Lib.byteCells (Enc.uint x))[j]? = some u → (w2.setCell ⟨w.heap.size, 8 - n, none⟩ (.int .u8 (-(n : Int) % 256))).cell? ((⟨w.heap.size, 8 - n, none⟩ : Addr).add j) = some u := by
  subst hn
  obtain ⟨n1, n2, h1, h2⟩ := Enc.nb_spec x hx hx2
  intro j u hj
  have ha : (⟨w.heap.size, 8 - Enc.nb x, none⟩ : Addr).add j = ⟨w.heap.size, 8 - Enc.nb x + j, none⟩ := by unfold Addr.add; split <;> simp_all
  rw [Enc.uint_big x hx] at hj
  rw [ha]
  clear ha
  have hdrop : Lib.beBytes (Enc.nb x) x = (Lib.beBytes 8 x).drop (8 - Enc.nb x) := Enc.beBytes_drop _ _ _ (by omega)
  cases j with
  | zero =>
    obtain ⟨u0, hu0⟩ := put.cell (8 - Enc.nb x) (by omega)
    simp only [Lib.byteCells, List.map_cons, List.getElem?_cons_zero, Option.some.injEq] at hj
    subst hj
    rw [show 8 - Enc.nb x + 0 = 8 - Enc.nb x by omega, World.cell?_setCell_same _ _ _ hu0]
    congr 2
    rw [Nat.toUInt8, UInt8.toNat_ofNat']
    omega
  | succ j =>
    simp only [Lib.byteCells, List.map_cons, List.getElem?_cons_succ, List.getElem?_map] at hj
    rw [World.cell?_setCell_other _ _ _ _ (by simp)]
    rw [hdrop, List.getElem?_drop] at hj
    by_cases hj8 : 8 - Enc.nb x + j < 8
    · rw [show 8 - Enc.nb x + (j + 1) = 1 + (8 - Enc.nb x + j) by omega, put.here _ hj8]
      rw [List.getElem?_eq_getElem (by rw [Lib.beBytes_length]; exact hj8)] at hj
      exact hj
    · rw [List.getElem?_eq_none (by rw [Lib.beBytes_length]; omega)] at hj
      cases hj

set_option maxHeartbeats 400000 in
set_option maxRecDepth 100000 in
theorem appendUint_big (B : Nat) (v : Value) (xs : List UInt8) (x : Nat) (w : World) (hx : 128 ≤ x) (hx2 : x < 18446744073709551616) (hown : w.ownsRow B 5 1 v xs.length (Lib.byteCells xs)) (hB : B ≤ w.heap.size) (hl : xs.length ≤ 100000000) :
    Calls Try.prog 16 #[v, .int .u64 x] w fun e w' => ∃ v', e = .returned v' ∧ App B w w' v v' xs (Enc.uint x) := by
  obtain ⟨i0, hi, hz0, hz1, hz2⟩ := info_parts Try.info5
  obtain ⟨n1, n2, _, _⟩ := Enc.nb_spec x hx hx2
  have eb : (Lib.bitLen x + 7) / 8 = Enc.nb x := rfl
  have hb : Lib.bitLen x ≤ 64 := by omega
  go_enter Try.func16, Try.ntmps16
  go_wp2_with fail
  refine (len64 x _ hx2).mono ?_
  rintro e w' ⟨rfl, rfl⟩
  go_wp2_with fail
  have e5 : ((Lib.bitLen x : Int) + 7) / 8 = ((Enc.nb x : Nat) : Int) := by unfold Enc.nb; omega
  rw [e5]
  clear eb e5 hb
  have hP := put64 x w' hx2 #[.int .u8 0, .int .u8 0, .int .u8 0, .int .u8 0, .int .u8 0, .int .u8 0, .int .u8 0, .int .u8 0, .int .u8 0] rfl 63
  generalize hn : Enc.nb x = n at *
  have HN : Hid (n = Enc.nb x) := hn.symm
  clear hn
  go_region_with (go_at_call 22; refine hP.mono ?_; rintro e w2 ⟨rfl, put⟩)
  obtain ⟨u, hu⟩ := put.cell (8 - n) (by omega)
  have hfr := put.free (8 - n)
  have hsz := put.size
  clear hP
  have hsl := slice9 w'.heap.size n n2
  have hown2 : w2.ownsRow B 5 1 v xs.length (Lib.byteCells xs) := hown.kept (w' := w2) (row := none) ⟨put.bel.os, put.bel.tape, put.bel.output, put.bel.size, fun k hk _ => put.bel.block k hk⟩ (by cases v.ownBlock <;> simp)
  have hvb : ∀ k, v.ownBlock = some k → k < w'.heap.size := fun k hk => (hown.lt k hk).2
  clear hown
  go_wp2_with (at_builtin; refine wpList_append_lies _ rfl (.tmp 28) (.tmp 31) 22 rfl B 5 i0 (.int .u8 0) 1 1 Try.underlying22 hi hz0 hz1 hz2 rfl (by decide) _ xs.length (Lib.byteCells xs) rfl ?c0 ⟨w'.heap.size, 8 - n, none⟩ (n + 1) (n + 1) (Lib.byteCells (Enc.uint x)) rfl ?c9 ?c1 ?c2 ?c3 ?c4 ?c5 ?c6 (w'.heap.size + 2) ?c8 ?_)
  case c0 => exact hown2.kept (grownBy_setCell w2 w'.heap.size _ _) (by cases e : v.ownBlock with | none => exact .inl rfl | some k => right; have := hvb k e; simp; omega)
  case c9 => rw [Lib.byteCells_length, Enc.uint_big x hx, List.length_cons, Lib.beBytes_length, HN.out]; omega
  case c1 => exact big_cells x hx hx2 w' w2 put n HN.out
  case c2 => intro u hu; simp only [Lib.byteCells, List.mem_map] at hu; obtain ⟨b, _, rfl⟩ := hu; rfl
  case c3 => omega
  case c4 => unfold maxLen; omega
  case c5 => omega
  case c6 => simp [World.setCell]; omega
  case c8 => simp [World.setCell]; omega
  intro g cap w3 hown3 hgrow hat hlt
  have key : App B w' w3 v (.slice (some ⟨g, 0, none⟩) (xs.length + (n + 1)) cap) xs (Enc.uint x) := by
    have el : (Enc.uint x).length = n + 1 := by rw [Enc.uint_big x hx, List.length_cons, Lib.beBytes_length, HN.out]
    refine ⟨?_, ⟨hgrow.os.trans put.bel.os, hgrow.tape.trans put.bel.tape, hgrow.output.trans put.bel.output, ?_, ?_⟩, ?_⟩
    · rw [Lib.byteCells_append, el]; exact hown3
    · have := hgrow.size; simp only [World.setCell, Array.size_modify] at this; omega
    · intro k hk hne
      rw [hgrow.block k (by simp only [World.setCell, Array.size_modify]; omega) hne, Below.heap_setCell _ _ _ _ (by simp; omega), put.bel.block k hk]
    · rcases hat with e | e
      · exact .inl e.symm
      · exact .inr ⟨g, rfl, by omega⟩
  clear hown3 hgrow hat hown2 hvb put hsl hu hfr
  go_wp2
  go_ret
  exact ⟨_, rfl, key⟩

/-- 'AppendUint(b, x)'. -/
theorem appendUint (B : Nat) (v : Value) (xs : List UInt8) (x : Nat) (w : World) (hx2 : x < 18446744073709551616) (hown : w.ownsRow B 5 1 v xs.length (Lib.byteCells xs)) (hB : B ≤ w.heap.size) (hl : xs.length ≤ 100000000) :
    Calls Try.prog 16 #[v, .int .u64 x] w fun e w' => ∃ v', e = .returned v' ∧ App B w w' v v' xs (Enc.uint x) := by
  by_cases hx : x < 128
  · exact appendUint_small B v xs x w hx hown hB hl
  · exact appendUint_big B v xs x w (by omega) hx2 hown hB hl
end Go.Proofs.Qxb6625815a
