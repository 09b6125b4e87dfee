import Derived.Test.Qxb6626088aGen
import Derived.Test.Qxb6626088aLaw
namespace Go.Proofs.Qxb6626088a
open Go.RowKit

theorem Try.info4 : (Try.prog.info? 4).map (fun i => (i.zero, i.size, i.bytes)) = some (some (.bool false), 1, 1) := by kernel_rfl

/-- The order is a permutation of 0 .. n - 1 that begins with 0, or empty. -/
structure OK (zs : List Int) (n : Nat) : Prop where
  first : 0 < n → zs.getD 0 0 = 0
  range : ∀ k, k < n → 0 ≤ zs.getD k 0 ∧ zs.getD k 0 < n
  apart : ∀ i j, i < j → j < n → zs.getD i 0 ≠ zs.getD j 0

def seen (zs : List Int) (k v : Nat) : Bool := (List.range k).any fun i => zs.getD i 0 == (v : Int)
theorem seen_succ (zs : List Int) (k v : Nat) : seen zs (k + 1) v = (seen zs k v || (zs.getD k 0 == (v : Int))) := by
  simp only [seen, List.range_succ, List.any_append, List.any_cons, List.any_nil, Bool.or_false]
theorem seen_of (zs : List Int) (k v i : Nat) (hi : i < k) (h : zs.getD i 0 = (v : Int)) : seen zs k v = true := by
  rw [seen, List.any_eq_true]
  exact ⟨i, List.mem_range.2 hi, by rw [h]; simp⟩

/-- What 'ringOrderOK' answers. -/
def OkPost (zs : List Int) (n : Nat) (w : World) (e : Ending) (w' : World) : Prop := ∃ r : Bool, e = .returned (.bool r) ∧ (r = true → OK zs n) ∧ Fr w w' (fun _ => False)

/-- The state of its loop. -/
structure SInv (zs : List Int) (n k : Nat) (w wr : World) (S : Nat) : Prop where
  blk : ∃ cs : Array Value, wr.heap[S]? = some (.cells cs 4 (0, 0)) ∧ cs.size = n ∧ ∀ v, v < n → cs[v]? = some (.bool (seen zs k v))
  range : ∀ i, i < k → 0 ≤ zs.getD i 0 ∧ zs.getD i 0 < n
  apart : ∀ i j, i < j → j < k → zs.getD i 0 ≠ zs.getD j 0
  fr : Fr w wr (fun _ => False)
  low : w.heap.size ≤ S

section
variable {zs : List Int} {n k : Nat} {w wr : World} {S : Nat}
theorem SInv.cell (h : SInv zs n k w wr S) (v : Nat) (hv : v < n) : wr.cell? ⟨S, v, none⟩ = some (.bool (seen zs k v)) ∧ wr.frozen? ⟨S, v, none⟩ = false := by
  obtain ⟨cs, hb, _, hc⟩ := h.blk
  exact ⟨by rw [cell_of_row _ _ _ _ _ _ hb]; exact hc v hv, frozen_of_row wr _ _ _ _ hb⟩
theorem SInv.step (h : SInv zs n k w wr S) (v : Nat) (hv : v < n) (hz : zs.getD k 0 = (v : Int)) (hs : seen zs k v = false) : SInv zs n (k + 1) w (wr.setCell ⟨S, v, none⟩ (.bool true)) S := by
  obtain ⟨cs, hb, hsz, hc⟩ := h.blk
  refine ⟨⟨_, setCell_blk _ _ _ _ _ _ _ hb, by simp [hsz], ?_⟩, ?_, ?_, ⟨h.fr.os, h.fr.tape, h.fr.output, by have := h.fr.size; simpa [World.setCell] using this, fun b hb2 _ => (Below.heap_setCell _ _ _ _ ?_).trans (h.fr.block b hb2 id)⟩, h.low⟩
  · intro u hu
    rw [seen_succ, hz]
    by_cases e : v = u
    · subst e
      rw [Array.getElem?_setIfInBounds_self]
      simp [hsz, hv]
    · rw [Array.getElem?_setIfInBounds_ne e, hc u hu]
      have : ((v : Int) == (u : Int)) = false := by simp; omega
      rw [this, Bool.or_false]
  · intro i hi
    by_cases e : i = k
    · subst e; rw [hz]; omega
    · exact h.range i (by omega)
  · intro i j hij hj
    by_cases e : j = k
    · subst e
      intro e2
      rw [seen_of zs j v i hij (by rw [e2, hz])] at hs
      cases hs
    · exact h.apart i j hij (by omega)
  · have := h.low
    simp; omega
theorem SInv.start (zs : List Int) (n : Nat) (w w2 : World) (hown : w2.ownsRow w.heap.size 4 1 (.slice (some ⟨w.heap.size, 0, none⟩) n n) n (madeCells #[.bool false] n).toList) (hg : w.grownBy w2 none) (hm : ∀ v, v < n → (madeCells #[.bool false] n).toList[v]? = some (.bool false)) : SInv zs n 0 w w2 w.heap.size := by
  refine ⟨?_, fun i hi => by omega, fun i j _ hj => by omega, ⟨hg.os, hg.tape, hg.output, hg.size, fun k hk _ => hg.block k hk (by simp)⟩, Nat.le_refl _⟩
  rcases hown.2 with ⟨e, _⟩ | ⟨g, c, cur, hv, _, hgb, _, _, hsz, ht⟩
  · cases e
  · simp only [Value.slice.injEq, Option.some.injEq, Addr.mk.injEq, and_true] at hv
    obtain ⟨rfl, _, rfl⟩ := hv
    refine ⟨cur, hgb, by omega, fun v hv => ?_⟩
    have := hm v hv
    rw [← ht, List.getElem?_take, if_pos (by omega)] at this
    simpa [seen] using this
end

theorem made_false (n v : Nat) (h : v < n) : (madeCells #[Value.bool false] n).toList[v]? = some (.bool false) := by simp [madeCells, h, Nat.mod_one]

set_option maxHeartbeats 800000 in
set_option maxRecDepth 100000 in
theorem ok_any (bk off len cap : Nat) (zs : List Int) (w : World) (hl : len ≤ 65536) (h0 : 0 < len)
    (hc : ∀ i, i < len → w.cell? ⟨bk, off + i, none⟩ = some (.int .i64 (zs.getD i 0))) (hbk : bk < w.heap.size) :
    Calls Try.prog 14 #[.slice (some ⟨bk, off, none⟩) len cap] w (OkPost zs len w) := by
  obtain ⟨i0, hi, hz0, hz1, hz2⟩ := info_parts Try.info4
  have c0 := hc 0 h0
  have HC : Hid (∀ i, i < len → w.cell? ⟨bk, off + i, none⟩ = some (.int .i64 (zs.getD i 0))) := hc
  have hzl : ((len : Int) == 0) = false := by simp; omega
  clear hc
  rw [Nat.add_zero] at c0
  by_cases hf : zs.getD 0 0 = 0
  · rw [hf] at c0
    have HF : Hid (zs.getD 0 0 = 0) := hf
    clear hf
    go_enter Try.func14, Try.ntmps14
    go_wp2_with (at_make; refine wpList_make_full _ rfl (.tmp 15) (.tmp 15) 62 rfl w.heap.size 4 i0 (.bool false) 1 Try.underlying62 hi hz0 hz1 .i64 .i64 _ _ len rfl rfl (by omega) (by omega) ?b2 ?b3 ?b4 ?_)
    case b2 => rw [hz2]; omega
    case b3 => unfold maxLen; omega
    case b4 => omega
    intro w2 hown hgrow
    have hI : SInv zs len 0 w w2 w.heap.size := SInv.start zs len w w2 (by simpa [Value.cells] using hown) hgrow (made_false len)
    clear hown hgrow
    generalize hS : w.heap.size = S at hI ⊢
    go_wp2_with fail
    go_loopw [5] (fun i wr => ∃ k : Nat, k ≤ len ∧ i = .int .i64 k ∧ SInv zs len k w wr S) (fun i _ => len - (intOf i).toNat)
    case atStart => exact ⟨0, by omega, rfl, hI⟩
    case round =>
      clear hI
      obtain ⟨k, hk, rfl, hI⟩ := hrel
      by_cases hlt : k < len
      · have cx := HC.out k hlt
        rw [← hI.fr.cell _ (by exact hbk)] at cx
        have b1 : (k : Int) < len := by omega
        generalize hX : zs.getD k 0 = x at cx
        have HX : Hid (zs.getD k 0 = x) := hX
        clear hX
        by_cases hx : x < 0
        · have hx1 : decide (x < 0) = true := by simpa using hx
          go_wp2_with fail
          go_ret
          exact ⟨false, rfl, (fun h => by cases h), hI.fr⟩
        · have hx1 : decide (x < 0) = false := by simpa using hx
          by_cases hx2 : (len : Int) ≤ x
          · go_wp2_with fail
            go_ret
            exact ⟨false, rfl, (fun h => by cases h), hI.fr⟩
          · obtain ⟨v, rfl⟩ : ∃ v : Nat, x = v := ⟨x.toNat, by omega⟩
            have hv : v < len := by omega
            obtain ⟨cs, fs⟩ := hI.cell v hv
            have hx3 : ¬ len ≤ v := by omega
            have hx4 : (0 : Int) ≤ v := by omega
            have hx5 : (v : Int) < len := by omega
            clear hx hx2 hx1
            cases hsn : seen zs k v
            · have HI := hI.step v hv HX.out hsn
              rw [hsn] at cs
              clear hI hsn
              go_wp2_with fail
              go_roundw
              case rel => exact ⟨k + 1, by omega, by go_num, HI⟩
              case measure => simp [intOf]; omega
            · rw [hsn] at cs
              clear hsn
              go_wp2_with fail
              go_ret
              exact ⟨false, rfl, (fun h => by cases h), hI.fr⟩
      · have ek : len = k := by omega
        subst ek
        go_wp2_with fail
        go_ret
        exact ⟨true, rfl, fun _ => ⟨fun _ => HF.out, hI.range, hI.apart⟩, hI.fr⟩
  · generalize zs.getD 0 0 = x at c0 hf
    have hx : (x == 0) = false := by simpa using hf
    go_enter Try.func14, Try.ntmps14
    go_wp2_with fail
    go_ret
    exact ⟨false, rfl, (fun h => by cases h), ⟨rfl, rfl, rfl, Nat.le_refl _, fun _ _ _ => rfl⟩⟩

theorem ok_zero (a : Option Addr) (cap : Nat) (w : World) : Calls Try.prog 14 #[.slice a 0 cap] w fun e w' => e = .returned (.bool true) ∧ w' = w := by
  go_enter Try.func14, Try.ntmps14
  go_wp2_with fail
  go_ret
  exact ⟨rfl, rfl⟩
end Go.Proofs.Qxb6626088a
