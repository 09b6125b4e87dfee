import Derived.Test.Qxb6627537aRows
import Derived.WalkKit
import Derived.BigQuiet
import Derived.Deep.QuietTactic
import Derived.Deep.RegionHeld3
import Derived.Deep.OwnRows
import Derived.Below
import Derived.Laws.BitsAllLaws
namespace Go.Proofs.Qxb6627537a
open Go.RowKit

/-- Of the old blocks none has turned. -/
structure Kept (w w' : World) : Prop where
  os : w'.os = w.os
  tape : w'.tape = w.tape
  output : w'.output = w.output
  size : w.heap.size ≤ w'.heap.size
  block : ∀ k, k < w.heap.size → w'.heap[k]? = w.heap[k]?
theorem Kept.refl (w : World) : Kept w w := ⟨rfl, rfl, rfl, Nat.le_refl _, fun _ _ => rfl⟩
theorem Kept.trans {w w1 w2 : World} (h : Kept w w1) (k : Kept w1 w2) : Kept w w2 :=
  ⟨k.os.trans h.os, k.tape.trans h.tape, k.output.trans h.output, Nat.le_trans h.size k.size, fun i hi => (k.block i (Nat.lt_of_lt_of_le hi h.size)).trans (h.block i hi)⟩
theorem Kept.alloc (w : World) (o : Obj) : Kept w (w.alloc o) := ⟨rfl, rfl, rfl, by simp, fun k hk => Below.heap_alloc _ _ _ hk⟩
theorem Kept.drew {w w' : World} (h : Kept w w') : Kept w w'.drew := ⟨h.os, h.tape, h.output, h.size, h.block⟩
theorem Kept.set {w w' : World} (h : Kept w w') (b o : Nat) (v : Value) (hb : w.heap.size ≤ b) : Kept w (w'.setCell ⟨b, o, none⟩ v) :=
  ⟨h.os, h.tape, h.output, by have := h.size; simpa [World.setCell] using this, fun k hk => (Below.heap_setCell _ _ _ _ (by show k ≠ b; omega)).trans (h.block k hk)⟩
theorem Kept.below {w w' : World} (h : Kept w w') : Below w.heap.size w w' := ⟨h.os, h.tape, h.output, h.size, h.block⟩
theorem Kept.cell {w w' : World} (h : Kept w w') (a : Addr) (ha : a.block < w.heap.size) : w'.cell? a = w.cell? a := World.cell?_of_block (h.block _ ha)

/-- A slice of words: its elements read xs. -/
structure Words (w : World) (v : Value) (xs : List Nat) : Prop where
  val : ∃ a cap, v = .slice a xs.length cap ∧ (0 < xs.length → ∃ b off, a = some ⟨b, off, none⟩ ∧ b < w.heap.size ∧ ∀ i, i < xs.length → w.cell? ⟨b, off + i, none⟩ = some (.int .u64 (xs.getD i 0 : Nat)))
  range : ∀ x ∈ xs, x < 18446744073709551616
theorem Words.kept {w w' : World} {v : Value} {xs : List Nat} (h : Words w v xs) (k : Kept w w') : Words w' v xs := by
  obtain ⟨a, cap, hv, hc⟩ := h.val
  refine ⟨⟨a, cap, hv, fun h0 => ?_⟩, h.range⟩
  obtain ⟨b, off, ha, hb, hx⟩ := hc h0
  exact ⟨b, off, ha, Nat.lt_of_lt_of_le hb k.size, fun i hi => (k.cell _ hb).trans (hx i hi)⟩
theorem Words.get {w : World} {v : Value} {xs : List Nat} (h : Words w v xs) (i : Nat) : xs.getD i 0 < 18446744073709551616 := by
  by_cases hi : i < xs.length
  · rw [List.getD_eq_getElem?_getD, List.getElem?_eq_getElem hi]
    exact h.range _ (List.getElem_mem hi)
  · rw [List.getD_eq_getElem?_getD, List.getElem?_eq_none (by omega)]
    decide

/-- The last word, if any, is not zero. -/
def Canon (xs : List Nat) : Prop := 0 < xs.length → xs.getD (xs.length - 1) 0 ≠ 0

/-- Bit id. -/
def hasB (xs : List Nat) (id : Nat) : Bool := (xs.getD (id / 64) 0).testBit (id % 64)

theorem words_any (v : Value) (w : World) : Calls Try.prog 6 #[.agg #[v]] w fun e w' => e = .returned v ∧ Kept w w' := by
  go_enter Try.func6, Try.ntmps6
  go_wp2
  go_ret
  exact ⟨rfl, Kept.alloc _ _⟩

theorem newSet_any (a : Option Addr) (n c : Nat) (w : World) : Calls Try.prog 7 #[.slice a n c] w fun e w' => e = .returned (.agg #[.slice a n c]) ∧ Kept w w' := by
  go_enter Try.func7, Try.ntmps7
  go_wp2
  exact bodyPost_ret (v := .agg #[.slice a n c]) (by simp [results, Try.results7, go_sem]) rfl ⟨rfl, Kept.alloc _ _⟩

theorem max_any (x y : Nat) (w : World) : Calls Try.prog 9 #[.int .i64 x, .int .i64 y] w fun e w' => e = .returned (.int .i64 (Nat.max x y)) ∧ w' = w := by
  by_cases h : y < x
  · go_enter Try.func9, Try.ntmps9
    go_wp2
    go_ret
    exact ⟨by show Ending.returned (.int .i64 (x : Int)) = _; rw [show Nat.max x y = x from Nat.max_eq_left (by omega)], rfl⟩
  · go_enter Try.func9, Try.ntmps9
    go_wp2
    go_ret
    exact ⟨by show Ending.returned (.int .i64 (y : Int)) = _; rw [show Nat.max x y = y from Nat.max_eq_right (by omega)], rfl⟩

set_option maxRecDepth 100000 in
theorem has_any (v : Value) (xs : List Nat) (id : Nat) (w : World) (h : Words w v xs) (hid : id ≤ 16777216) (hn : xs.length ≤ 1048576) :
    Calls Try.prog 11 #[v, .int .i64 id] w fun e w' => e = .returned (.bool (hasB xs id)) ∧ w' = w := by
  obtain ⟨a, cap, rfl, hc⟩ := h.val
  obtain ⟨n, hlen⟩ : ∃ n, xs.length = n := ⟨_, rfl⟩
  rw [hlen] at hc hn ⊢
  by_cases hk : id / 64 < n
  · obtain ⟨b, off, rfl, hb, hx⟩ := hc (by omega)
    have c0 := hx (id / 64) hk
    have r1 := h.get (id / 64)
    have HX : Hid (hasB xs id = (xs.getD (id / 64) 0).testBit (id % 64)) := rfl
    rw [HX.out]
    generalize xs.getD (id / 64) 0 = x at c0 r1 ⊢
    have b1 : ((id : Int) / 64) < n := by omega
    have b2 : ¬ ((n : Int) ≤ (id : Int) / 64) := by omega
    clear hc hx HX
    go_enter Try.func11, Try.ntmps11
    go_wp2
    go_ret
    refine ⟨?_, rfl⟩
    show Ending.returned (.bool (bits BinOp.and IntKind.u64 ((x : Int) / 2 ^ (id % 64)) 1 == 1)) = _
    have e1 : ((x : Int) / 2 ^ (id % 64)) = ((x / 2 ^ (id % 64) : Nat) : Int) := by simp
    rw [e1, show (1 : Int) = ((1 : Nat) : Int) from rfl, u64_and_nat _ _ (Nat.lt_of_le_of_lt (Nat.div_le_self _ _) r1) (by decide), Nat.and_one_is_mod, Nat.testBit_eq_decide_div_mod_eq]
    congr 2
    rw [Bool.eq_iff_iff]
    simp only [beq_iff_eq, decide_eq_true_eq]
    omega
  · have HX : hasB xs id = false := by
      unfold hasB
      rw [List.getD_eq_getElem?_getD, List.getElem?_eq_none (by omega)]
      simp
    rw [HX]
    clear hc
    have b2 : ((n : Int) ≤ (id : Int) / 64) := by omega
    go_enter Try.func11, Try.ntmps11
    go_wp2
    go_ret
    exact ⟨rfl, rfl⟩
end Go.Proofs.Qxb6627537a
