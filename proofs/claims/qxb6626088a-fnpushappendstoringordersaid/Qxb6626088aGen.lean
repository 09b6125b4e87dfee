import Derived.Test.Qxb6626088aInv
namespace Go.Proofs.Qxb6626088a
open Go.RowKit

set_option maxHeartbeats 1600000 in
set_option maxRecDepth 100000 in
theorem push_empty (B L g cap eb : Nat) (s : Int) (hh : Bool) (w : World) (hL : Line w B L (.slice (some ⟨g, 0, none⟩) 0 cap) []) (hE : Ent w eb s hh) (hB : B ≤ w.heap.size) :
    Calls Try.prog 16 #[.pointer (some ⟨L, 0, none⟩), .pointer (some ⟨eb, 0, none⟩)] w fun e w' => e = .returned (.tuple #[]) ∧ ∃ g' cap', Line w' B L (.slice (some ⟨g', 0, none⟩) 1 cap') [(.pointer (some ⟨eb, 0, none⟩), 0, 0)] ∧ Ent w' eb 0 false ∧ Fr w w' (fun k => k = g ∨ k = L ∨ k = eb) := by
  obtain ⟨i0, hi, hz0, hz1, hz2⟩ := info_parts Try.info61
  have hlen : ([] : List Place).length = 0 := rfl
  have hLlt := hL.lt
  have helt := hE.lt
  have cL := hL.cell
  have dL : ∀ o, (w.alloc o).cell? ⟨L, 0, none⟩ = some (.slice (some ⟨g, 0, none⟩) 0 cap) := fun o => (World.cell?_of_block (Below.heap_alloc _ _ _ hLlt)).trans cL
  have fL : ∀ o, (w.alloc o).frozen? ⟨L, 0, none⟩ = false := fun o => (World.frozen?_of_block (Below.heap_alloc _ _ _ hLlt)).trans hL.free
  have hown := hL.own
  rw [List.length_nil] at hown
  have HE : Hid (Ent w eb s hh) := hE
  have HL : Hid (Line w B L (.slice (some ⟨g, 0, none⟩) 0 cap) []) := hL
  clear hE
  go_enter Try.func16, Try.ntmps16
  go_wp2_with fail
  refine wp_region_any (by kernel_rfl) ?_
  change wpAny _ _ _ _ _ _ _ (World.drew (w.alloc (.cells #[.pointer (some ⟨eb, 0, none⟩), .int .i64 0, .int .i64 0] 61)))
  refine wpAny_take (i := 0) (v := .pointer (some ⟨L, 0, none⟩)) rfl (by kernel_rfl) (by kernel_rfl) (by kernel_rfl) (fun _ _ _ h => h) (Or.inl ⟨by rfl, by intro w; go_simp⟩) ?_
  refine wpAny_take (i := 1) (v := .pointer (some ⟨L, 0, none⟩)) rfl (by kernel_rfl) (by kernel_rfl) (by kernel_rfl) (fun _ _ _ h => h) (Or.inl ⟨by rfl, by intro w; go_simp⟩) ?_
  refine wpAny_take (i := 2) (v := .pointer (some ⟨L, 0, none⟩)) rfl (by kernel_rfl) (by kernel_rfl) (by kernel_rfl) (fun _ _ _ h => h) (Or.inl ⟨by rfl, by intro w; go_simp⟩) ?_
  try simp only [Act.put, List.setIfInBounds_toArray]
  refine wpAny_ready (rs := [3, 4]) (by kernel_rfl) (by simp) ?_
  refine AllReady.cons rfl (fun K hK => ?_) ?_
  · (go_simp; refine hK _ _ ?_; clear hK K; try simp only [Act.put, List.setIfInBounds_toArray, List.set_cons_zero, List.set_cons_succ])
    refine wpAny_ready (rs := [4]) (by kernel_rfl) (by simp) ?_
    refine AllReady.cons rfl (fun K hK => ?_) ?_
    · (go_simp; refine hK _ _ ?_; clear hK K; try simp only [Act.put, List.setIfInBounds_toArray, List.set_cons_zero, List.set_cons_succ])
      refine wpAny_ready (rs := [5]) (by kernel_rfl) (by simp) ?_
      refine AllReady.cons rfl (fun K hK => ?_) ?_
      · (go_simp; refine hK _ _ ?_; clear hK K; try simp only [Act.put, List.setIfInBounds_toArray, List.set_cons_zero, List.set_cons_succ])
        refine wpAny_ready (rs := [6]) (by kernel_rfl) (by simp) ?_
        refine AllReady.cons rfl (fun K hK => ?_) AllReady.nil
        refine step_append_lies _ (by rfl) (.tmp 27) (.tmp 29) 43 (by rfl) B 61 i0 (.agg #[.pointer none, .int .i64 0, .int .i64 0]) 3 24 Try.underlying43 hi hz0 hz1 hz2 (by rfl) (by decide) (.slice (some ⟨g, 0, none⟩) 0 cap) 0 (flat []) (by rfl) (((hown.alloc _).alloc _).drew) ⟨w.heap.size + 1, 0, none⟩ 1 1 [.pointer (some ⟨eb, 0, none⟩), .int .i64 0, .int .i64 0] (by rfl) (by rfl) (three_cells _ _ _ _ _ _ (by simp)) (by simp [Value.oneCell']) (by decide) (by unfold maxLen; omega) (by omega) (by simp; omega) (w.heap.size + 2) (by simp) ?_
        intro gg cap2 w1 hown1 hgrow hat hlt
        refine hK _ _ ?_; clear hK K; try simp only [Act.put, List.setIfInBounds_toArray]
        obtain ⟨LW, pW, EW, FW, hgH, hb1⟩ := hL.grown2 hlen HE.out hown1 hgrow hat
        have M4 := Mid.mk LW pW EW FW (hat.imp Eq.symm (fun e2 => by omega)) hgH
        clear LW pW EW FW hgH
        have cL1 : w1.cell? ⟨L, 0, none⟩ = some (.slice (some ⟨g, 0, none⟩) 0 cap) := by rw [cell_of_row _ _ _ _ _ _ hb1]; rfl
        have fL1 : w1.frozen? ⟨L, 0, none⟩ = false := frozen_of_row w1 _ _ _ _ hb1
        refine wpAny_ready (rs := [7]) (by kernel_rfl) (by simp) ?_
        refine AllReady.cons rfl (fun K hK => ?_) ?_
        · (go_simp; refine hK _ _ ?_; clear hK K; try simp only [Act.put, List.setIfInBounds_toArray, List.set_cons_zero, List.set_cons_succ])
          refine wpAny_ready (rs := [8]) (by kernel_rfl) (by simp) ?_
          refine AllReady.cons rfl (fun K hK => ?_) ?_
          · (go_simp; refine hK _ _ ?_; clear hK K; try simp only [Act.put, List.setIfInBounds_toArray, List.set_cons_zero, List.set_cons_succ])
            refine wpAny_done (by kernel_rfl) ?_ _
            clear cL1 fL1 hb1 hown1 hgrow hat hlt hown dL fL
            generalize w1.setCell ⟨L, 0, none⟩ (.slice (some ⟨gg, 0, none⟩) (0 + 1) cap2) = W at *
            have hgL := M4.line.ne
            have hgH := M4.at2
            have hl1 : (0 : Nat) < (([] : List Place) ++ [((.pointer (some ⟨eb, 0, none⟩) : Value), (0 : Int), (0 : Int))]).length := by first | (rw [List.length_append, hlen]; simp; omega) | simp
            have hl0 : 0 < (setN (([] : List Place) ++ [((.pointer (some ⟨eb, 0, none⟩) : Value), (0 : Int), (0 : Int))]) 0 (0 : Nat)).length := by rw [setN_len]; simp
            have wL4 := M4.line.cell
            have wa4 : W.cell? ⟨w.heap.size, 1, none⟩ = some (.int .i64 0) := by rw [cell_of_row _ _ _ _ _ _ M4.pb]; rfl
            have wb4 : W.cell? ⟨w.heap.size, 2, none⟩ = some (.int .i64 0) := by rw [cell_of_row _ _ _ _ _ _ M4.pb]; rfl
            have tg4 := (M4.line.at _ hl1).2.2
            have tf4 := M4.line.gfree
            generalize ((([] : List Place) ++ [((.pointer (some ⟨eb, 0, none⟩) : Value), (0 : Int), (0 : Int))])[0]).2.2 = old4 at tg4
            try simp only [Nat.zero_mul, Nat.zero_add] at tg4
            go_wp2_with fail
            go_region_held3 (fun v : World => v.cell? ⟨L, 0, none⟩ = some (.slice (some ⟨gg, 0, none⟩) (0 + 1) cap2) ∧ v.cell? ⟨w.heap.size, 1, none⟩ = some (.int .i64 0) ∧ v.cell? ⟨w.heap.size, 2, none⟩ = some (.int .i64 0))
              (first | go_keep)
              (fail)
            have M5 := M4.set _ _ (M4.line.setNext _ hl1 (0 : Nat))
            clear M4 wL4 wa4 wb4 tg4 tf4
            simp only [Nat.zero_mul, Nat.zero_add] at M5
            generalize (W.setCell ⟨gg, 2, none⟩ (.int .i64 0)).drew = V at *
            have wL5 := M5.line.cell
            have wa5 : V.cell? ⟨w.heap.size, 1, none⟩ = some (.int .i64 0) := by rw [cell_of_row _ _ _ _ _ _ M5.pb]; rfl
            have wb5 : V.cell? ⟨w.heap.size, 2, none⟩ = some (.int .i64 0) := by rw [cell_of_row _ _ _ _ _ _ M5.pb]; rfl
            have tg5 := (M5.line.at _ hl0).2.1
            have tf5 := M5.line.gfree
            generalize ((setN (([] : List Place) ++ [((.pointer (some ⟨eb, 0, none⟩) : Value), (0 : Int), (0 : Int))]) 0 (0 : Nat))[0]).2.1 = old5 at tg5
            try simp only [Nat.zero_mul, Nat.zero_add] at tg5
            go_wp2_with fail
            go_region_held3 (fun v : World => v.cell? ⟨L, 0, none⟩ = some (.slice (some ⟨gg, 0, none⟩) (0 + 1) cap2) ∧ v.cell? ⟨w.heap.size, 1, none⟩ = some (.int .i64 0) ∧ v.cell? ⟨w.heap.size, 2, none⟩ = some (.int .i64 0))
              (first | go_keep)
              (fail)
            have M6 := M5.set _ _ (M5.line.setPrev _ hl0 (0 : Nat))
            clear M5 wL5 wa5 wb5 tg5 tf5
            simp only [Nat.zero_mul, Nat.zero_add] at M6
            generalize (V.setCell ⟨gg, 1, none⟩ (.int .i64 0)).drew = U at *
            obtain ⟨u1, u2, u3, u4⟩ := M6.ent.cells
            obtain ⟨f1, f2, f3⟩ := M6.fin (0 : Nat)
            go_wp2_with fail
            go_end0
            exact ⟨rfl, gg, cap2, f1, f2, f3.mono (fun k _ h => h.imp (fun e2 => by simpa [Value.ownBlock] using e2) id)⟩
          exact AllReady.nil
        exact AllReady.nil
      exact AllReady.nil
    exact AllReady.nil
  refine AllReady.cons rfl (fun K hK => ?_) ?_
  · (go_simp; refine hK _ _ ?_; clear hK K; try simp only [Act.put, List.setIfInBounds_toArray, List.set_cons_zero, List.set_cons_succ])
    refine wpAny_ready (rs := [3, 5]) (by kernel_rfl) (by simp) ?_
    refine AllReady.cons rfl (fun K hK => ?_) ?_
    · (go_simp; refine hK _ _ ?_; clear hK K; try simp only [Act.put, List.setIfInBounds_toArray, List.set_cons_zero, List.set_cons_succ])
      refine wpAny_ready (rs := [5]) (by kernel_rfl) (by simp) ?_
      refine AllReady.cons rfl (fun K hK => ?_) ?_
      · (go_simp; refine hK _ _ ?_; clear hK K; try simp only [Act.put, List.setIfInBounds_toArray, List.set_cons_zero, List.set_cons_succ])
        refine wpAny_ready (rs := [6]) (by kernel_rfl) (by simp) ?_
        refine AllReady.cons rfl (fun K hK => ?_) AllReady.nil
        refine step_append_lies _ (by rfl) (.tmp 27) (.tmp 29) 43 (by rfl) B 61 i0 (.agg #[.pointer none, .int .i64 0, .int .i64 0]) 3 24 Try.underlying43 hi hz0 hz1 hz2 (by rfl) (by decide) (.slice (some ⟨g, 0, none⟩) 0 cap) 0 (flat []) (by rfl) (((hown.alloc _).alloc _).drew) ⟨w.heap.size + 1, 0, none⟩ 1 1 [.pointer (some ⟨eb, 0, none⟩), .int .i64 0, .int .i64 0] (by rfl) (by rfl) (three_cells _ _ _ _ _ _ (by simp)) (by simp [Value.oneCell']) (by decide) (by unfold maxLen; omega) (by omega) (by simp; omega) (w.heap.size + 2) (by simp) ?_
        intro gg cap2 w1 hown1 hgrow hat hlt
        refine hK _ _ ?_; clear hK K; try simp only [Act.put, List.setIfInBounds_toArray]
        obtain ⟨LW, pW, EW, FW, hgH, hb1⟩ := hL.grown2 hlen HE.out hown1 hgrow hat
        have M4 := Mid.mk LW pW EW FW (hat.imp Eq.symm (fun e2 => by omega)) hgH
        clear LW pW EW FW hgH
        have cL1 : w1.cell? ⟨L, 0, none⟩ = some (.slice (some ⟨g, 0, none⟩) 0 cap) := by rw [cell_of_row _ _ _ _ _ _ hb1]; rfl
        have fL1 : w1.frozen? ⟨L, 0, none⟩ = false := frozen_of_row w1 _ _ _ _ hb1
        refine wpAny_ready (rs := [7]) (by kernel_rfl) (by simp) ?_
        refine AllReady.cons rfl (fun K hK => ?_) ?_
        · (go_simp; refine hK _ _ ?_; clear hK K; try simp only [Act.put, List.setIfInBounds_toArray, List.set_cons_zero, List.set_cons_succ])
          refine wpAny_ready (rs := [8]) (by kernel_rfl) (by simp) ?_
          refine AllReady.cons rfl (fun K hK => ?_) ?_
          · (go_simp; refine hK _ _ ?_; clear hK K; try simp only [Act.put, List.setIfInBounds_toArray, List.set_cons_zero, List.set_cons_succ])
            refine wpAny_done (by kernel_rfl) ?_ _
            clear cL1 fL1 hb1 hown1 hgrow hat hlt hown dL fL
            generalize w1.setCell ⟨L, 0, none⟩ (.slice (some ⟨gg, 0, none⟩) (0 + 1) cap2) = W at *
            have hgL := M4.line.ne
            have hgH := M4.at2
            have hl1 : (0 : Nat) < (([] : List Place) ++ [((.pointer (some ⟨eb, 0, none⟩) : Value), (0 : Int), (0 : Int))]).length := by first | (rw [List.length_append, hlen]; simp; omega) | simp
            have hl0 : 0 < (setN (([] : List Place) ++ [((.pointer (some ⟨eb, 0, none⟩) : Value), (0 : Int), (0 : Int))]) 0 (0 : Nat)).length := by rw [setN_len]; simp
            have wL4 := M4.line.cell
            have wa4 : W.cell? ⟨w.heap.size, 1, none⟩ = some (.int .i64 0) := by rw [cell_of_row _ _ _ _ _ _ M4.pb]; rfl
            have wb4 : W.cell? ⟨w.heap.size, 2, none⟩ = some (.int .i64 0) := by rw [cell_of_row _ _ _ _ _ _ M4.pb]; rfl
            have tg4 := (M4.line.at _ hl1).2.2
            have tf4 := M4.line.gfree
            generalize ((([] : List Place) ++ [((.pointer (some ⟨eb, 0, none⟩) : Value), (0 : Int), (0 : Int))])[0]).2.2 = old4 at tg4
            try simp only [Nat.zero_mul, Nat.zero_add] at tg4
            go_wp2_with fail
            go_region_held3 (fun v : World => v.cell? ⟨L, 0, none⟩ = some (.slice (some ⟨gg, 0, none⟩) (0 + 1) cap2) ∧ v.cell? ⟨w.heap.size, 1, none⟩ = some (.int .i64 0) ∧ v.cell? ⟨w.heap.size, 2, none⟩ = some (.int .i64 0))
              (first | go_keep)
              (fail)
            have M5 := M4.set _ _ (M4.line.setNext _ hl1 (0 : Nat))
            clear M4 wL4 wa4 wb4 tg4 tf4
            simp only [Nat.zero_mul, Nat.zero_add] at M5
            generalize (W.setCell ⟨gg, 2, none⟩ (.int .i64 0)).drew = V at *
            have wL5 := M5.line.cell
            have wa5 : V.cell? ⟨w.heap.size, 1, none⟩ = some (.int .i64 0) := by rw [cell_of_row _ _ _ _ _ _ M5.pb]; rfl
            have wb5 : V.cell? ⟨w.heap.size, 2, none⟩ = some (.int .i64 0) := by rw [cell_of_row _ _ _ _ _ _ M5.pb]; rfl
            have tg5 := (M5.line.at _ hl0).2.1
            have tf5 := M5.line.gfree
            generalize ((setN (([] : List Place) ++ [((.pointer (some ⟨eb, 0, none⟩) : Value), (0 : Int), (0 : Int))]) 0 (0 : Nat))[0]).2.1 = old5 at tg5
            try simp only [Nat.zero_mul, Nat.zero_add] at tg5
            go_wp2_with fail
            go_region_held3 (fun v : World => v.cell? ⟨L, 0, none⟩ = some (.slice (some ⟨gg, 0, none⟩) (0 + 1) cap2) ∧ v.cell? ⟨w.heap.size, 1, none⟩ = some (.int .i64 0) ∧ v.cell? ⟨w.heap.size, 2, none⟩ = some (.int .i64 0))
              (first | go_keep)
              (fail)
            have M6 := M5.set _ _ (M5.line.setPrev _ hl0 (0 : Nat))
            clear M5 wL5 wa5 wb5 tg5 tf5
            simp only [Nat.zero_mul, Nat.zero_add] at M6
            generalize (V.setCell ⟨gg, 1, none⟩ (.int .i64 0)).drew = U at *
            obtain ⟨u1, u2, u3, u4⟩ := M6.ent.cells
            obtain ⟨f1, f2, f3⟩ := M6.fin (0 : Nat)
            go_wp2_with fail
            go_end0
            exact ⟨rfl, gg, cap2, f1, f2, f3.mono (fun k _ h => h.imp (fun e2 => by simpa [Value.ownBlock] using e2) id)⟩
          exact AllReady.nil
        exact AllReady.nil
      exact AllReady.nil
    refine AllReady.cons rfl (fun K hK => ?_) ?_
    · (go_simp; refine hK _ _ ?_; clear hK K; try simp only [Act.put, List.setIfInBounds_toArray, List.set_cons_zero, List.set_cons_succ])
      refine wpAny_ready (rs := [3]) (by kernel_rfl) (by simp) ?_
      refine AllReady.cons rfl (fun K hK => ?_) ?_
      · (go_simp; refine hK _ _ ?_; clear hK K; try simp only [Act.put, List.setIfInBounds_toArray, List.set_cons_zero, List.set_cons_succ])
        refine wpAny_ready (rs := [6]) (by kernel_rfl) (by simp) ?_
        refine AllReady.cons rfl (fun K hK => ?_) AllReady.nil
        refine step_append_lies _ (by rfl) (.tmp 27) (.tmp 29) 43 (by rfl) B 61 i0 (.agg #[.pointer none, .int .i64 0, .int .i64 0]) 3 24 Try.underlying43 hi hz0 hz1 hz2 (by rfl) (by decide) (.slice (some ⟨g, 0, none⟩) 0 cap) 0 (flat []) (by rfl) (((hown.alloc _).alloc _).drew) ⟨w.heap.size + 1, 0, none⟩ 1 1 [.pointer (some ⟨eb, 0, none⟩), .int .i64 0, .int .i64 0] (by rfl) (by rfl) (three_cells _ _ _ _ _ _ (by simp)) (by simp [Value.oneCell']) (by decide) (by unfold maxLen; omega) (by omega) (by simp; omega) (w.heap.size + 2) (by simp) ?_
        intro gg cap2 w1 hown1 hgrow hat hlt
        refine hK _ _ ?_; clear hK K; try simp only [Act.put, List.setIfInBounds_toArray]
        obtain ⟨LW, pW, EW, FW, hgH, hb1⟩ := hL.grown2 hlen HE.out hown1 hgrow hat
        have M4 := Mid.mk LW pW EW FW (hat.imp Eq.symm (fun e2 => by omega)) hgH
        clear LW pW EW FW hgH
        have cL1 : w1.cell? ⟨L, 0, none⟩ = some (.slice (some ⟨g, 0, none⟩) 0 cap) := by rw [cell_of_row _ _ _ _ _ _ hb1]; rfl
        have fL1 : w1.frozen? ⟨L, 0, none⟩ = false := frozen_of_row w1 _ _ _ _ hb1
        refine wpAny_ready (rs := [7]) (by kernel_rfl) (by simp) ?_
        refine AllReady.cons rfl (fun K hK => ?_) ?_
        · (go_simp; refine hK _ _ ?_; clear hK K; try simp only [Act.put, List.setIfInBounds_toArray, List.set_cons_zero, List.set_cons_succ])
          refine wpAny_ready (rs := [8]) (by kernel_rfl) (by simp) ?_
          refine AllReady.cons rfl (fun K hK => ?_) ?_
          · (go_simp; refine hK _ _ ?_; clear hK K; try simp only [Act.put, List.setIfInBounds_toArray, List.set_cons_zero, List.set_cons_succ])
            refine wpAny_done (by kernel_rfl) ?_ _
            clear cL1 fL1 hb1 hown1 hgrow hat hlt hown dL fL
            generalize w1.setCell ⟨L, 0, none⟩ (.slice (some ⟨gg, 0, none⟩) (0 + 1) cap2) = W at *
            have hgL := M4.line.ne
            have hgH := M4.at2
            have hl1 : (0 : Nat) < (([] : List Place) ++ [((.pointer (some ⟨eb, 0, none⟩) : Value), (0 : Int), (0 : Int))]).length := by first | (rw [List.length_append, hlen]; simp; omega) | simp
            have hl0 : 0 < (setN (([] : List Place) ++ [((.pointer (some ⟨eb, 0, none⟩) : Value), (0 : Int), (0 : Int))]) 0 (0 : Nat)).length := by rw [setN_len]; simp
            have wL4 := M4.line.cell
            have wa4 : W.cell? ⟨w.heap.size, 1, none⟩ = some (.int .i64 0) := by rw [cell_of_row _ _ _ _ _ _ M4.pb]; rfl
            have wb4 : W.cell? ⟨w.heap.size, 2, none⟩ = some (.int .i64 0) := by rw [cell_of_row _ _ _ _ _ _ M4.pb]; rfl
            have tg4 := (M4.line.at _ hl1).2.2
            have tf4 := M4.line.gfree
            generalize ((([] : List Place) ++ [((.pointer (some ⟨eb, 0, none⟩) : Value), (0 : Int), (0 : Int))])[0]).2.2 = old4 at tg4
            try simp only [Nat.zero_mul, Nat.zero_add] at tg4
            go_wp2_with fail
            go_region_held3 (fun v : World => v.cell? ⟨L, 0, none⟩ = some (.slice (some ⟨gg, 0, none⟩) (0 + 1) cap2) ∧ v.cell? ⟨w.heap.size, 1, none⟩ = some (.int .i64 0) ∧ v.cell? ⟨w.heap.size, 2, none⟩ = some (.int .i64 0))
              (first | go_keep)
              (fail)
            have M5 := M4.set _ _ (M4.line.setNext _ hl1 (0 : Nat))
            clear M4 wL4 wa4 wb4 tg4 tf4
            simp only [Nat.zero_mul, Nat.zero_add] at M5
            generalize (W.setCell ⟨gg, 2, none⟩ (.int .i64 0)).drew = V at *
            have wL5 := M5.line.cell
            have wa5 : V.cell? ⟨w.heap.size, 1, none⟩ = some (.int .i64 0) := by rw [cell_of_row _ _ _ _ _ _ M5.pb]; rfl
            have wb5 : V.cell? ⟨w.heap.size, 2, none⟩ = some (.int .i64 0) := by rw [cell_of_row _ _ _ _ _ _ M5.pb]; rfl
            have tg5 := (M5.line.at _ hl0).2.1
            have tf5 := M5.line.gfree
            generalize ((setN (([] : List Place) ++ [((.pointer (some ⟨eb, 0, none⟩) : Value), (0 : Int), (0 : Int))]) 0 (0 : Nat))[0]).2.1 = old5 at tg5
            try simp only [Nat.zero_mul, Nat.zero_add] at tg5
            go_wp2_with fail
            go_region_held3 (fun v : World => v.cell? ⟨L, 0, none⟩ = some (.slice (some ⟨gg, 0, none⟩) (0 + 1) cap2) ∧ v.cell? ⟨w.heap.size, 1, none⟩ = some (.int .i64 0) ∧ v.cell? ⟨w.heap.size, 2, none⟩ = some (.int .i64 0))
              (first | go_keep)
              (fail)
            have M6 := M5.set _ _ (M5.line.setPrev _ hl0 (0 : Nat))
            clear M5 wL5 wa5 wb5 tg5 tf5
            simp only [Nat.zero_mul, Nat.zero_add] at M6
            generalize (V.setCell ⟨gg, 1, none⟩ (.int .i64 0)).drew = U at *
            obtain ⟨u1, u2, u3, u4⟩ := M6.ent.cells
            obtain ⟨f1, f2, f3⟩ := M6.fin (0 : Nat)
            go_wp2_with fail
            go_end0
            exact ⟨rfl, gg, cap2, f1, f2, f3.mono (fun k _ h => h.imp (fun e2 => by simpa [Value.ownBlock] using e2) id)⟩
          exact AllReady.nil
        exact AllReady.nil
      exact AllReady.nil
    exact AllReady.nil
  exact AllReady.nil

theorem place_gen (B L g n cap k : Nat) (ps : List Place) (w : World) (hL : Line w B L (.slice (some ⟨g, 0, none⟩) n cap) ps) (hk : k < n) (b : Nat) (p q : Int) (hb : ps[k]? = some (ptr b, p, q)) :
    Calls Try.prog 12 #[.pointer (some ⟨L, 0, none⟩), .int .i64 k] w fun e w' => e = .returned (.tuple #[.pointer (some ⟨b, 0, none⟩), .int .i64 p, .int .i64 q]) ∧ Fr w w' (fun _ => False) := by
  have cL := hL.cell
  obtain ⟨hmb, hbe⟩ := List.getElem?_eq_some_iff.1 hb
  obtain ⟨c0, c1, c2⟩ := hL.at k hmb
  rw [hbe] at c0 c1 c2
  have HB : Hid (ptr b = .pointer (some ⟨b, 0, none⟩)) := rfl
  rw [HB.out] at c0
  have b1 : (k : Int) < n := by omega
  clear hb hbe hmb
  go_enter Try.func12, Try.ntmps12
  go_wp2_with fail
  go_quiet (fail)
  go_wp2_with fail
  go_ret3
  exact ⟨rfl, (Fr.alloc _ _).trans ⟨rfl, rfl, rfl, Nat.le_refl _, fun _ _ _ => rfl⟩ (fun _ _ h => h)⟩

theorem last17_gen (B L g n cap m : Nat) (ps : List Place) (w : World) (hL : Line w B L (.slice (some ⟨g, 0, none⟩) n cap) ps) (hm : m < n) (x0 : Value) (q0 p q : Int) (b : Nat) (h0 : ps[0]? = some (x0, (m : Int), q0)) (hb : ps[m]? = some (ptr b, p, q)) :
    Calls Try.prog 17 #[.slice (some ⟨g, 0, none⟩) n cap] w fun e w' => e = .returned (.pointer (some ⟨b, 0, none⟩)) ∧ w' = w := by
  obtain ⟨hm0, he0⟩ := List.getElem?_eq_some_iff.1 h0
  obtain ⟨hmb, hbe⟩ := List.getElem?_eq_some_iff.1 hb
  have c0 := (hL.at 0 hm0).2.1
  rw [he0] at c0
  have c1 := (hL.at m hmb).1
  rw [hbe] at c1
  simp only [Nat.zero_mul, Nat.zero_add] at c0
  have b1 : (m : Int) < n := by omega
  have b2 : 0 < n := by omega
  have HB : Hid (ptr b = .pointer (some ⟨b, 0, none⟩)) := rfl
  rw [HB.out] at c1
  clear hb hbe hmb h0 he0 hm0
  go_enter Try.func17, Try.ntmps17
  go_wp2
  go_ret
  exact ⟨rfl, rfl⟩

theorem last_gen (B L g n cap m : Nat) (ps : List Place) (w : World) (hL : Line w B L (.slice (some ⟨g, 0, none⟩) n cap) ps) (hm : m < n) (x0 : Value) (q0 p q : Int) (b : Nat) (h0 : ps[0]? = some (x0, (m : Int), q0)) (hb : ps[m]? = some (ptr b, p, q)) :
    Calls Try.prog 10 #[.pointer (some ⟨L, 0, none⟩)] w fun e w' => e = .returned (.pointer (some ⟨b, 0, none⟩)) ∧ w' = w := by
  have cL := hL.cell
  go_enter Try.func10, Try.ntmps10
  go_wp2_with fail
  refine (last17_gen B L g n cap m ps _ hL hm x0 q0 p q b h0 hb).mono ?_
  rintro e w' ⟨rfl, rfl⟩
  go_wp2_with fail
  go_ret
  exact ⟨rfl, rfl⟩

theorem bytes13_yes (a : Option Addr) (len cap : Nat) (s : Int) (h : Bool) (w : World) (hl : len ≤ 1048576) : Calls Try.prog 13 #[.slice a len cap, .int .i64 s, .bool h] w fun e w' => e = .returned (.bool true) ∧ w' = w := by
  go_enter Try.func13, Try.ntmps13
  go_wp2
  go_ret
  exact ⟨rfl, rfl⟩
theorem bytes13_no (a : Option Addr) (len cap : Nat) (s : Int) (h : Bool) (w : World) (hl : 1048576 < len) : Calls Try.prog 13 #[.slice a len cap, .int .i64 s, .bool h] w fun e w' => e = .returned (.bool false) ∧ w' = w := by
  go_enter Try.func13, Try.ntmps13
  go_wp2
  go_ret
  exact ⟨rfl, rfl⟩
end Go.Proofs.Qxb6626088a
