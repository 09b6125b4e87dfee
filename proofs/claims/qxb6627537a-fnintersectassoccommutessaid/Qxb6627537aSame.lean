import Derived.Test.Qxb6627537aInter
namespace Go.Proofs.Qxb6627537a
open Go.RowKit

def BPost (w : World) (e : Ending) (w' : World) : Prop := ∃ r : Bool, e = .returned (.bool r) ∧ w' = w

set_option maxRecDepth 100000 in
theorem bytes5_any (a b : Option Addr) (n c m d : Nat) (w : World) (hn : n ≤ 9223372036854775807) (hm : m ≤ 9223372036854775807) : Calls Try.prog 5 #[.slice a n c, .slice b m d] w (BPost w) := by
  by_cases h1 : 1048576 < n
  · go_enter Try.func5, Try.ntmps5
    go_wp2
    go_ret
    exact ⟨_, rfl, rfl⟩
  · by_cases h2 : 1048576 < m
    · go_enter Try.func5, Try.ntmps5
      go_wp2
      go_ret
      exact ⟨_, rfl, rfl⟩
    · by_cases h3 : 1048576 < n + m
      · have h4 : (1048576 : Int) < (n : Int) + m := by omega
        go_enter Try.func5, Try.ntmps5
        go_wp2
        go_ret
        exact ⟨_, rfl, rfl⟩
      · have h4 : (n : Int) + m ≤ 1048576 := by omega
        go_enter Try.func5, Try.ntmps5
        go_wp2
        go_ret
        exact ⟨_, rfl, rfl⟩

set_option maxHeartbeats 800000 in
set_option maxRecDepth 100000 in
/-- 'sameWords' of two slices that read the same. -/
theorem same_any (u v : Value) (xs : List Nat) (w : World) (hu : Words w u xs) (hv : Words w v xs) (hx1 : xs.length ≤ 1048576) :
    Calls Try.prog 13 #[u, v] w fun e w' => e = .returned (.bool true) ∧ Kept w w' := by
  obtain ⟨a, cap, rfl, hx⟩ := hu.val
  obtain ⟨a2, cap2, rfl, hy⟩ := hv.val
  obtain ⟨n, hlen⟩ : ∃ n, xs.length = n := ⟨_, rfl⟩
  rw [hlen] at hx hy hx1 ⊢
  have HX : Hid (0 < n → ∃ b off, a = some ⟨b, off, none⟩ ∧ b < w.heap.size ∧ ∀ i, i < n → w.cell? ⟨b, off + i, none⟩ = some (.int .u64 (xs.getD i 0 : Nat))) := hx
  have HY : Hid (0 < n → ∃ b off, a2 = some ⟨b, off, none⟩ ∧ b < w.heap.size ∧ ∀ i, i < n → w.cell? ⟨b, off + i, none⟩ = some (.int .u64 (xs.getD i 0 : Nat))) := hy
  clear hx hy hu hv hlen
  go_enter Try.func13, Try.ntmps13
  go_wp2_with fail
  go_loopw [5] (fun i wr => ∃ k q : Nat, k ≤ n ∧ i = .int .i64 k ∧ wr = w.drewN q) (fun i _ => n - (intOf i).toNat)
  case atStart => exact ⟨0, 0, by omega, rfl, rfl⟩
  case round =>
    obtain ⟨k, q, hk, rfl, rfl⟩ := hrel
    by_cases hlt : k < n
    · obtain ⟨b, off, rfl, hb, hx⟩ := HX.out (by omega)
      obtain ⟨b', off', rfl, hb', hy⟩ := HY.out (by omega)
      have c0 := hx k hlt
      have c1 := hy k hlt
      generalize xs.getD k 0 = x at c0 c1
      have b1 : (k : Int) < n := by omega
      clear hx hy
      go_wp2_with fail
      go_quiet (fail)
      go_wp2_with fail
      go_roundw
      case rel => exact ⟨k + 1, _, by omega, by go_num, rfl⟩
      case measure => simp [intOf]; omega
    · have ek : n = k := by omega
      subst ek
      go_wp2_with fail
      go_ret
      exact ⟨rfl, ⟨rfl, rfl, rfl, Nat.le_refl _, fun _ _ => rfl⟩⟩

/-- Canonical words that read the same are the same. -/
theorem canon_ext {xs ys : List Nat} (hx : Canon xs) (hy : Canon ys) (h : ∀ i, xs.getD i 0 = ys.getD i 0) : xs = ys := by
  have hl : xs.length = ys.length := by
    rcases Nat.lt_trichotomy xs.length ys.length with c | c | c
    · exact (hy (by omega) (by rw [← h, getD_over xs _ (by omega)])).elim
    · exact c
    · exact (hx (by omega) (by rw [h, getD_over ys _ (by omega)])).elim
  apply List.ext_getElem hl
  intro i h1 h2
  have := h i
  simpa [List.getD_eq_getElem?_getD, h1, h2] using this
theorem IsInter.len {ts xs ys : List Nat} (h : IsInter ts xs ys) : ts.length ≤ xs.length ∧ ts.length ≤ ys.length := by
  constructor
  · by_cases c : ts.length ≤ xs.length
    · exact c
    · exact (h.canon (by omega) (by rw [h.at', getD_over xs _ (by omega), Nat.zero_and])).elim
  · by_cases c : ts.length ≤ ys.length
    · exact c
    · exact (h.canon (by omega) (by rw [h.at', getD_over ys _ (by omega), Nat.and_zero])).elim
theorem IsInter.has {ts xs ys : List Nat} (h : IsInter ts xs ys) (id : Nat) : hasB ts id = (hasB xs id && hasB ys id) := by
  unfold hasB
  rw [h.at', Nat.testBit_and]
end Go.Proofs.Qxb6627537a
