import Derived.Test.Qxb6626088aLaw
namespace Go.Proofs.Qxb6626088a
open Go.RowKit

set_option maxHeartbeats 800000 in
set_option maxRecDepth 100000 in
theorem law_zero (a : Option Addr) (cap : Nat) (w : World) :
    Calls Try.prog 3 #[.slice a 0 cap] w fun e w' => e = .returned (.bool true) ∧ Below w.heap.size w w' := by
  obtain ⟨i0, hi, hz0, hz1, hz2⟩ := info_parts Try.info27
  go_enter Try.func3, Try.ntmps3
  go_wp2_with fail
  refine (bytes_yes _ _ _ _ (by omega)).mono ?_
  rintro e w' ⟨rfl, rfl⟩
  go_wp2_with fail
  refine (newLine_any _).mono ?_
  rintro e w1 ⟨rfl, rfl⟩
  go_wp2_with (at_make; refine wpList_make_full _ rfl (.tmp 35) (.tmp 35) 26 rfl w'.heap.size 27 i0 (.pointer none) 1 Try.underlying26 hi hz0 hz1 .i64 .i64 _ _ 0 rfl rfl (by omega) (by omega) ?b2 ?b3 ?b4 ?_)
  case b2 => omega
  case b3 => unfold maxLen; omega
  case b4 => simp
  intro w2 hown hgrow
  have hI : Inv w' w2 w'.heap.size (w'.heap.size + 1) 0 0 (.slice none 0 0) [] [] := Inv.start w' 0 w2 (by simpa [Value.cells] using hown) hgrow
  clear hown hgrow
  generalize hE : w'.heap.size + 1 = E at hI ⊢
  generalize hL : w'.heap.size = L at hI ⊢
  have HLE : Hid (w'.heap.size + 1 = E ∧ w'.heap.size = L) := ⟨hE, hL⟩
  clear hE hL
  go_wp2_with fail
  go_loopw [6] (fun i wr => i = .int .i64 0 ∧ wr = w2) (fun _ _ => 0)
  case atStart => exact ⟨rfl, rfl⟩
  case round =>
    obtain ⟨rfl, rfl⟩ := hrel
    go_wp2_with fail
    go_loopw [8] (fun i wq => i = .int .i64 0 ∧ wq = wr) (fun _ _ => 0)
    case atStart => exact ⟨rfl, rfl⟩
    case round =>
      obtain ⟨rfl, rfl⟩ := hrel
      go_wp2_with fail
      refine (len_any _ L none 0 0 [] _ hI.line).mono ?_
      rintro e w4 ⟨rfl, rfl⟩
      go_wp2_with fail
      go_ret
      exact ⟨rfl, hI.low⟩

set_option maxRecDepth 100000 in
theorem law_big (a : Option Addr) (len cap : Nat) (w : World) (h : 65536 < len) (h2 : len ≤ 9223372036854775807) :
    Calls Try.prog 3 #[.slice a len cap] w fun e w' => e = .returned (.bool true) ∧ Below w.heap.size w w' := by
  by_cases hb : len ≤ 1048576
  · go_enter Try.func3, Try.ntmps3
    go_wp2_with fail
    refine (bytes_yes _ _ _ _ hb).mono ?_
    rintro e w' ⟨rfl, rfl⟩
    go_wp2_with fail
    go_ret
    exact ⟨rfl, Below.refl _ _⟩
  · go_enter Try.func3, Try.ntmps3
    go_wp2_with fail
    refine (bytes_no _ _ _ _ (by omega)).mono ?_
    rintro e w' ⟨rfl, rfl⟩
    go_wp2_with fail
    go_ret
    exact ⟨rfl, Below.refl _ _⟩
end Go.Proofs.Qxb6626088a
