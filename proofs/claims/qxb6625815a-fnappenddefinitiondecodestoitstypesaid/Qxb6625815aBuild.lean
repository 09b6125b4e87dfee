import Derived.Test.Qxb6625815aDef2
import Derived.Test.Qxb6625815aMatch
import Derived.Lib.SliceRun
import Derived.WalkSpells
namespace Go.Proofs.Qxb6625815a
open Go.RowKit

theorem Try.info54 : (Try.prog.info? 54).map (fun i => (i.zero, i.size, i.bytes)) = some (some (.agg #[.string ⟨#[]⟩, .int .i64 0]), 2, 24) := by kernel_rfl

/-- What 'zzBuildType' leaves. -/
structure Built (w w' : World) (tb : Nat) (t : Enc.Ty) (fv : Value) : Prop where
  ty : TB w' tb t fv
  fields : FV w' fv t.fields
  bel : Below w.heap.size w w'
  lt : w.heap.size ≤ tb
  own : ∀ fb, Value.ownBlock fv = some fb → w.heap.size ≤ fb

set_option maxHeartbeats 800000 in
set_option maxRecDepth 100000 in
theorem build_nil (id kd el ky ln : Int) (nm : ByteArray) (w : World) :
    Calls Try.prog 9 #[.agg #[.int .i64 id, .string nm, .int .i64 kd, .slice none 0 0, .int .i64 el, .int .i64 ky, .int .i64 ln]] w fun e w' => ∃ tb fv, e = .returned (.pointer (some ⟨tb, 0, none⟩)) ∧ Built w w' tb ⟨id, nm, kd, [], el, ky, ln⟩ fv := by
  have hnil := fun w => run_neq_slice_nil_any (P := Try.prog) w 23 29 none 0 0 0 0 Try.underlying23
  go_enter Try.func9, Try.ntmps9
  go_wp2
  go_ret
  refine ⟨w.heap.size + 1, .slice none 0 0, rfl, ⟨⟨?_⟩, .inl ⟨rfl, none, 0, rfl⟩, ?_, by omega, ?_⟩⟩
  · have := heap_alloc_new (w.alloc (.cells #[.int .i64 id, .string nm, .int .i64 kd, .slice none 0 0, .int .i64 el, .int .i64 ky, .int .i64 ln] 25)) (.cells #[.int .i64 id, .string nm, .int .i64 kd, .slice none 0 0, .int .i64 el, .int .i64 ky, .int .i64 ln] 49)
    simpa using this
  · exact ((Below.refl _ _).alloc (Nat.le_refl _) _).alloc (by simp) _
  · intro fb h; cases h

set_option maxHeartbeats 800000 in
set_option maxRecDepth 100000 in
theorem build_zero (id kd el ky ln : Int) (nm : ByteArray) (ad : Addr) (c : Nat) (w : World) :
    Calls Try.prog 9 #[.agg #[.int .i64 id, .string nm, .int .i64 kd, .slice (some ad) 0 c, .int .i64 el, .int .i64 ky, .int .i64 ln]] w fun e w' => ∃ tb fv, e = .returned (.pointer (some ⟨tb, 0, none⟩)) ∧ Built w w' tb ⟨id, nm, kd, [], el, ky, ln⟩ fv := by
  have hnil := fun w => run_neq_slice_nil_any (P := Try.prog) w 23 29 (some ad) 0 c 0 0 Try.underlying23
  obtain ⟨i0, hi, hz0, hz1, hz2⟩ := info_parts Try.info54
  go_enter Try.func9, Try.ntmps9
  go_wp2_with (at_make; refine wpList_make_full _ rfl (.tmp 10) (.tmp 10) 47 rfl w.heap.size 54 i0 (.agg #[.string ⟨#[]⟩, .int .i64 0]) 2 Try.underlying47 hi hz0 hz1 .i64 .i64 _ _ 0 rfl rfl (by omega) (by omega) ?b2 ?b3 ?b4 ?_)
  case b2 => omega
  case b3 => unfold maxLen; omega
  case b4 => simp
  intro w1 hown hgrow
  have hs1 := hgrow.size
  simp only [World.size_alloc] at hs1
  have hT : w1.heap[w.heap.size]? = some (.cells #[.int .i64 id, .string nm, .int .i64 kd, .slice (some ad) 0 c, .int .i64 el, .int .i64 ky, .int .i64 ln] 25 (0, 0)) := by
    rw [hgrow.block _ (by simp) (by simp)]; exact heap_alloc_new w _
  have c0 : w1.cell? ⟨w.heap.size, 0, none⟩ = some (.int .i64 id) := by rw [cell_of_row _ _ _ _ _ _ hT]; rfl
  have c1 : w1.cell? ⟨w.heap.size, 1, none⟩ = some (.string nm) := by rw [cell_of_row _ _ _ _ _ _ hT]; rfl
  have c2 : w1.cell? ⟨w.heap.size, 2, none⟩ = some (.int .i64 kd) := by rw [cell_of_row _ _ _ _ _ _ hT]; rfl
  have c3 : w1.cell? ⟨w.heap.size, 3, none⟩ = some (.slice (some ad) 0 c) := by rw [cell_of_row _ _ _ _ _ _ hT]; rfl
  have c4 : w1.cell? ⟨w.heap.size, 4, none⟩ = some (.int .i64 el) := by rw [cell_of_row _ _ _ _ _ _ hT]; rfl
  have c5 : w1.cell? ⟨w.heap.size, 5, none⟩ = some (.int .i64 ky) := by rw [cell_of_row _ _ _ _ _ _ hT]; rfl
  have c6 : w1.cell? ⟨w.heap.size, 6, none⟩ = some (.int .i64 ln) := by rw [cell_of_row _ _ _ _ _ _ hT]; rfl
  have hbel : Below w.heap.size w w1 := ((Below.refl _ _).alloc (Nat.le_refl _) _).grown hgrow (by simp) (fun k h => by cases h)
  clear hown hgrow hT
  go_wp2_with fail
  refine wp_loop_rounds 1 ?_
  rw [rounds_succ]
  go_wp2
  go_ret
  refine ⟨w1.heap.size, .slice (some ⟨w.heap.size + 1, 0, none⟩) 0 0, rfl, ⟨⟨heap_alloc_new w1 _⟩, .inl ⟨rfl, _, 0, rfl⟩, hbel.alloc (by omega) _, by omega, ?_⟩⟩
  intro fb h
  simp [Value.ownBlock] at h
  omega

theorem setCell_blk2 (w : World) (B o : Nat) (v : Value) (cs : Array Value) (t : TypeId) (fr : Nat × Nat) (h : w.heap[B]? = some (.cells cs t fr)) : (w.setCell ⟨B, o, none⟩ v).heap[B]? = some (.cells (cs.setIfInBounds o v) t fr) := by
  obtain ⟨hlt, h'⟩ := Array.getElem?_eq_some_iff.1 h
  show (w.heap.modify B _)[B]? = _
  rw [Array.getElem?_eq_getElem (by simpa using hlt), Array.getElem_modify_self, h']
  rfl

/-- The row after k fields. -/
def Row (w : World) (F n k : Nat) (fs : List (ByteArray × Int)) : Prop :=
  ∃ cur : Array Value, w.heap[F]? = some (.cells cur 54 (0, 0)) ∧ cur.size = n * 2 ∧ cur.toList.take (k * 2) = (fs.take k).flatMap fun f => [Value.string f.1, .int .i64 f.2]

theorem Row.step {w : World} {F n k : Nat} {fs : List (ByteArray × Int)} (h : Row w F n k fs) (hk : k < fs.length) (hkn : k < n) :
    Row ((w.setCell ⟨F, k * 2, none⟩ (.string (fs[k]).1)).setCell ⟨F, k * 2 + 1, none⟩ (.int .i64 (fs[k]).2)) F n (k + 1) fs := by
  obtain ⟨cur, h1, h2, h3⟩ := h
  refine ⟨_, setCell_blk2 _ _ _ _ _ _ _ (setCell_blk2 _ _ _ _ _ _ _ h1), by simp [h2], ?_⟩
  rw [List.take_succ_eq_append_getElem hk, List.flatMap_append, ← h3]
  simp only [Array.toList_setIfInBounds, List.flatMap_cons, List.flatMap_nil, List.append_nil]
  have hl : cur.toList.length = n * 2 := by simp [h2]
  apply List.ext_getElem?
  intro i
  rw [List.getElem?_take, List.getElem?_append]
  simp only [List.length_take, hl, show min (k * 2) (n * 2) = k * 2 by omega]
  by_cases hi : i < k * 2
  · rw [if_pos (show i < (k + 1) * 2 by omega), if_pos hi, List.getElem?_set_ne (by omega), List.getElem?_set_ne (by omega), List.getElem?_take, if_pos hi]
  · by_cases hi2 : i < (k + 1) * 2
    · rw [if_pos hi2, if_neg hi]
      rcases (show i = k * 2 ∨ i = k * 2 + 1 by omega) with rfl | rfl
      · rw [List.getElem?_set_ne (by omega), List.getElem?_set_self (by omega)]; simp
      · rw [List.getElem?_set_self (by simp; omega)]; simp
    · rw [if_neg hi2, if_neg hi, List.getElem?_eq_none (by simp; omega)]

set_option maxHeartbeats 1600000 in
set_option maxRecDepth 100000 in
theorem build_some (id kd el ky ln : Int) (nm : ByteArray) (b off c n : Nat) (fs : List (ByteArray × Int)) (w : World) (hn : fs.length = n) (hn1 : n ≤ 1048576) (hbl : b < w.heap.size)
    (hin : ∀ k (h : k < fs.length), w.cell? ⟨b, off + k * 2, none⟩ = some (.string (fs[k]).1) ∧ w.cell? ⟨b, off + k * 2 + 1, none⟩ = some (.int .i64 (fs[k]).2)) :
    Calls Try.prog 9 #[.agg #[.int .i64 id, .string nm, .int .i64 kd, .slice (some ⟨b, off, none⟩) n c, .int .i64 el, .int .i64 ky, .int .i64 ln]] w fun e w' => ∃ tb fv, e = .returned (.pointer (some ⟨tb, 0, none⟩)) ∧ Built w w' tb ⟨id, nm, kd, fs, el, ky, ln⟩ fv := by
  have hnil := fun w => run_neq_slice_nil_any (P := Try.prog) w 23 29 (some ⟨b, off, none⟩) n c 0 0 Try.underlying23
  obtain ⟨i0, hi, hz0, hz1, hz2⟩ := info_parts Try.info54
  have HN : Hid (fs.length = n) := hn
  have HI : Hid (∀ k (h : k < fs.length), w.cell? ⟨b, off + k * 2, none⟩ = some (.string (fs[k]).1) ∧ w.cell? ⟨b, off + k * 2 + 1, none⟩ = some (.int .i64 (fs[k]).2)) := hin
  clear hn hin
  go_enter Try.func9, Try.ntmps9
  go_wp2_with (at_make; refine wpList_make_full _ rfl (.tmp 10) (.tmp 10) 47 rfl w.heap.size 54 i0 (.agg #[.string ⟨#[]⟩, .int .i64 0]) 2 Try.underlying47 hi hz0 hz1 .i64 .i64 _ _ n rfl rfl (by omega) (by omega) ?b2 ?b3 ?b4 ?_)
  case b2 => rw [hz2]; omega
  case b3 => unfold maxLen; omega
  case b4 => simp
  intro w1 hown hgrow
  have hs1 := hgrow.size
  simp only [World.size_alloc] at hs1
  have hT : w1.heap[w.heap.size]? = some (.cells #[.int .i64 id, .string nm, .int .i64 kd, .slice (some ⟨b, off, none⟩) n c, .int .i64 el, .int .i64 ky, .int .i64 ln] 25 (0, 0)) := by
    rw [hgrow.block _ (by simp) (by simp)]; exact heap_alloc_new w _
  have hrow : Row w1 (w.heap.size + 1) n 0 fs := by
    rcases hown.2 with ⟨h, _⟩ | ⟨g, cap, cur, hv, _, hg, _, _, hs, _⟩
    · cases h
    · simp only [Value.slice.injEq, Option.some.injEq, Addr.mk.injEq, true_and, and_true] at hv
      obtain ⟨rfl, rfl⟩ := hv
      exact ⟨cur, hg, hs, by simp⟩
  have hbel : Below w.heap.size w w1 := ((Below.refl _ _).alloc (Nat.le_refl _) _).grown hgrow (by simp) (fun k h => by cases h)
  clear hown hgrow hnil
  go_wp2_with fail
  go_loopw [4] (fun i wr => ∃ k : Nat, k ≤ n ∧ i = .int .i64 k ∧ wr.heap[w.heap.size]? = some (.cells #[.int .i64 id, .string nm, .int .i64 kd, .slice (some ⟨b, off, none⟩) n c, .int .i64 el, .int .i64 ky, .int .i64 ln] 25 (0, 0)) ∧ Row wr (w.heap.size + 1) n k fs ∧ Below w.heap.size w wr) (fun i _ => n - (intOf i).toNat)
  case atStart => exact ⟨0, by omega, rfl, hT, hrow, hbel⟩
  case round =>
    obtain ⟨k, hk, rfl, hTr, hRr, hBr⟩ := hrel
    have c3 : wr.cell? ⟨w.heap.size, 3, none⟩ = some (.slice (some ⟨b, off, none⟩) n c) := by rw [cell_of_row _ _ _ _ _ _ hTr]; rfl
    have hszr : w.heap.size + 1 < wr.heap.size := by obtain ⟨cur, h1, _⟩ := hRr; exact (Array.getElem?_eq_some_iff.1 h1).1
    clear hT hrow hbel
    by_cases hlt : k < n
    · have hkl : k < fs.length := by rw [HN.out]; exact hlt
      obtain ⟨a1, a2⟩ := HI.out k hkl
      rw [← hBr.cell (p := ⟨b, off + k * 2, none⟩) hbl] at a1
      rw [← hBr.cell (p := ⟨b, off + k * 2 + 1, none⟩) hbl] at a2
      have HR := hRr.step hkl hlt
      obtain ⟨cur, hc1, hc2, _⟩ := hRr
      have r1 : wr.cell? ⟨w.heap.size + 1, k * 2, none⟩ = some (cur[k * 2]'(by omega)) := by rw [cell_of_row _ _ _ _ _ _ hc1, Array.getElem?_eq_getElem (by omega)]
      have r2 : wr.cell? ⟨w.heap.size + 1, k * 2 + 1, none⟩ = some (cur[k * 2 + 1]'(by omega)) := by rw [cell_of_row _ _ _ _ _ _ hc1, Array.getElem?_eq_getElem (by omega)]
      have f1 : wr.frozen? ⟨w.heap.size + 1, k * 2, none⟩ = false := frozen_of_row wr _ _ _ _ hc1
      have f2 : wr.frozen? ⟨w.heap.size + 1, k * 2 + 1, none⟩ = false := frozen_of_row wr _ _ _ _ hc1
      generalize cur[k * 2]'(by omega) = y1 at *
      generalize cur[k * 2 + 1]'(by omega) = y2 at *
      generalize (fs[k]).1 = fnm at *
      generalize (fs[k]).2 = fid at *
      have HRW : Hid (Row ((wr.setCell ⟨w.heap.size + 1, k * 2, none⟩ (.string fnm)).setCell ⟨w.heap.size + 1, k * 2 + 1, none⟩ (.int .i64 fid)) (w.heap.size + 1) n (k + 1) fs) := HR
      clear HR hc1 hc2
      have HK : Hid (((wr.setCell ⟨w.heap.size + 1, k * 2, none⟩ (.string fnm)).setCell ⟨w.heap.size + 1, k * 2 + 1, none⟩ (.int .i64 fid)).drew.cell? ⟨w.heap.size, 3, none⟩ = some (.slice (some ⟨b, off, none⟩) n c) ∧ ((wr.setCell ⟨w.heap.size + 1, k * 2, none⟩ (.string fnm)).setCell ⟨w.heap.size + 1, k * 2 + 1, none⟩ (.int .i64 fid)).drew.cell? ⟨b, off + k * 2, none⟩ = some (.string fnm) ∧ ((wr.setCell ⟨w.heap.size + 1, k * 2, none⟩ (.string fnm)).setCell ⟨w.heap.size + 1, k * 2 + 1, none⟩ (.int .i64 fid)).drew.cell? ⟨b, off + k * 2 + 1, none⟩ = some (.int .i64 fid)) := by
        refine ⟨?_, ?_, ?_⟩
        · rw [← c3]; exact World.cell?_of_block ((Below.heap_setCell _ _ _ _ (by simp)).trans (Below.heap_setCell _ _ _ _ (by simp)))
        · rw [← a1]; exact World.cell?_of_block ((Below.heap_setCell _ _ _ _ (by simp; omega)).trans (Below.heap_setCell _ _ _ _ (by simp; omega)))
        · rw [← a2]; exact World.cell?_of_block ((Below.heap_setCell _ _ _ _ (by simp; omega)).trans (Below.heap_setCell _ _ _ _ (by simp; omega)))
      have z0 : (0 : Int) ≤ (k : Int) := by omega
      have z1 : (k : Int) < (n : Int) := by omega
      go_wp2_with fail
      go_region_held3 (fun w' => w'.cell? ⟨w.heap.size, 3, none⟩ = some (.slice (some ⟨b, off, none⟩) n c) ∧ w'.cell? ⟨b, off + k * 2, none⟩ = some (.string fnm) ∧ w'.cell? ⟨b, off + k * 2 + 1, none⟩ = some (.int .i64 fid)) (first | exact HK.out | go_keep) (fail)
      go_wp2
      go_roundw
      case rel => exact ⟨k + 1, by omega, by go_num, by rw [show (((wr.setCell ⟨w.heap.size + 1, k * 2, none⟩ (.string fnm)).setCell ⟨w.heap.size + 1, k * 2 + 1, none⟩ (.int .i64 fid)).drew).heap = ((wr.setCell ⟨w.heap.size + 1, k * 2, none⟩ (.string fnm)).setCell ⟨w.heap.size + 1, k * 2 + 1, none⟩ (.int .i64 fid)).heap from rfl, Below.heap_setCell _ _ _ _ (by simp), Below.heap_setCell _ _ _ _ (by simp)]; exact hTr, HRW.out, ((hBr.setCell (p := ⟨w.heap.size + 1, k * 2, none⟩) (Nat.le_succ _) _).setCell (p := ⟨w.heap.size + 1, k * 2 + 1, none⟩) (Nat.le_succ _) _).drew⟩
      case measure => simp [intOf]; omega
    · have ek : n = k := by omega
      subst ek
      have c0 : wr.cell? ⟨w.heap.size, 0, none⟩ = some (.int .i64 id) := by rw [cell_of_row _ _ _ _ _ _ hTr]; rfl
      have c1 : wr.cell? ⟨w.heap.size, 1, none⟩ = some (.string nm) := by rw [cell_of_row _ _ _ _ _ _ hTr]; rfl
      have c2 : wr.cell? ⟨w.heap.size, 2, none⟩ = some (.int .i64 kd) := by rw [cell_of_row _ _ _ _ _ _ hTr]; rfl
      have c4 : wr.cell? ⟨w.heap.size, 4, none⟩ = some (.int .i64 el) := by rw [cell_of_row _ _ _ _ _ _ hTr]; rfl
      have c5 : wr.cell? ⟨w.heap.size, 5, none⟩ = some (.int .i64 ky) := by rw [cell_of_row _ _ _ _ _ _ hTr]; rfl
      have c6 : wr.cell? ⟨w.heap.size, 6, none⟩ = some (.int .i64 ln) := by rw [cell_of_row _ _ _ _ _ _ hTr]; rfl
      clear hTr
      go_wp2
      go_ret
      refine ⟨wr.heap.size, .slice (some ⟨w.heap.size + 1, 0, none⟩) n n, rfl, ⟨⟨heap_alloc_new wr _⟩, .inr ⟨w.heap.size + 1, n, 54, ?_, ?_, ?_⟩, hBr.alloc (by omega) _, by omega, ?_⟩⟩
      · simp only [HN.out]
      · simp only [HN.out]; exact hn1
      · obtain ⟨cur, h1, h2, h3⟩ := hRr
        rw [List.take_of_length_le (by simp [h2]), List.take_of_length_le (by rw [HN.out]; exact Nat.le_refl _)] at h3
        rw [Below.heap_alloc _ _ _ (by omega), h1]
        simp only [← h3, Array.toArray_toList]
      · intro fb h
        simp [Value.ownBlock] at h
        omega
end Go.Proofs.Qxb6625815a
