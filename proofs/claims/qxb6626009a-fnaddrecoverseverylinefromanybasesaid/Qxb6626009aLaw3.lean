import Derived.Test.Qxb6626009aLaw2
namespace Go.Proofs.Qxb6626009a
open Go.RowKit

set_option maxHeartbeats 400000 in
set_option maxRecDepth 100000 in
theorem walk2_0 (a : Option Addr) (cap : Nat) (b : Int) (w : World) :
    Calls Try.prog 4 #[.slice a 0 cap, .int .i64 b] w fun e w' => e = .returned (.bool true) ∧ Below w.heap.size w w' := by
  go_enter Try.func4, Try.ntmps4
  go_wp2_with fail
  refine (bytes10_yes _ _ _ _ _ (by omega)).mono ?_
  rintro e w' ⟨rfl, rfl⟩
  go_wp2_with fail
  refine (new_any _).mono ?_
  rintro e w1 ⟨rfl, rfl⟩
  go_wp2_with fail
  refine wp_loop_rounds 1 ?_
  rw [rounds_succ]
  go_wp2_with fail
  refine (new_any _).mono ?_
  rintro e w1 ⟨rfl, rfl⟩
  have hA := LN.below (LN.start w') ((Below.refl _ _).alloc (Nat.le_refl _) (.cells #[.slice none 0 0, .slice none 0 0] 30))
  have hC := LN.start (w'.alloc (.cells #[.slice none 0 0, .slice none 0 0] 30))
  have hB : Below w'.heap.size w' ((w'.alloc (.cells #[.slice none 0 0, .slice none 0 0] 30)).alloc (.cells #[.slice none 0 0, .slice none 0 0] 30)) := ((Below.refl _ _).alloc (Nat.le_refl _) _).alloc (by simp) _
  have es : (w'.alloc (.cells #[.slice none 0 0, .slice none 0 0] 30)).heap.size = w'.heap.size + 1 := by simp
  rw [es] at hC
  generalize (w'.alloc (.cells #[.slice none 0 0, .slice none 0 0] 30)).alloc (.cells #[.slice none 0 0, .slice none 0 0] 30) = W at *
  go_wp2_with fail
  refine wp_loop_rounds 1 ?_
  rw [rounds_succ]
  go_wp2_with fail
  refine (firsts_any _ _ _ _ _ _ hA).mono ?_
  rintro e w2 ⟨rfl, rfl⟩
  go_wp2_with fail
  refine (lines_any _ _ _ _ _ _ hA).mono ?_
  rintro e w3 ⟨rfl, rfl⟩
  go_wp2_with fail
  refine (firsts_any _ _ _ _ _ _ hC).mono ?_
  rintro e w4 ⟨rfl, rfl⟩
  go_wp2_with fail
  refine (lines_any _ _ _ _ _ _ hC).mono ?_
  rintro e wb ⟨rfl, rfl⟩
  clear hA hC
  go_wp2_with fail
  refine wp_loop_rounds 1 ?_
  rw [rounds_succ]
  go_wp2_with fail
  refine wp_loop_rounds 1 ?_
  rw [rounds_succ]
  go_wp2
  go_ret
  exact ⟨rfl, hB⟩

set_option maxRecDepth 100000 in
theorem walk2_long (a : Option Addr) (len cap : Nat) (b : Int) (w : World) (h : 131072 < len) (hm : len ≤ 9223372036854775807) :
    Calls Try.prog 4 #[.slice a len cap, .int .i64 b] w fun e w' => e = .returned (.bool true) ∧ Below w.heap.size w w' := by
  by_cases h2 : len ≤ 1048576
  · go_enter Try.func4, Try.ntmps4
    go_wp2_with fail
    refine (bytes10_yes _ _ _ _ _ h2).mono ?_
    rintro e w' ⟨rfl, rfl⟩
    go_wp2
    go_ret
    exact ⟨rfl, Below.refl _ _⟩
  · go_enter Try.func4, Try.ntmps4
    go_wp2_with fail
    refine (bytes10_no _ _ _ _ _ (by omega)).mono ?_
    rintro e w' ⟨rfl, rfl⟩
    go_wp2
    go_ret
    exact ⟨rfl, Below.refl _ _⟩
end Go.Proofs.Qxb6626009a
