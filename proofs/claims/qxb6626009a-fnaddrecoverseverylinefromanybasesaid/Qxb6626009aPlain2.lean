import Derived.Test.Qxb6626009aPlain
namespace Go.Proofs.Qxb6626009a
open Go.RowKit

/-- The j-th run start among the first n. -/
def sAt (zs : List Int) (n j : Nat) : Nat := (starts zs n).getD j 0

theorem firsts_get (b : Int) (zs : List Int) (n j : Nat) (h : j < (starts zs n).length) : (firstsOf b zs n).getD j 0 = wrap64 (b + sAt zs n j) := by
  simp [firstsOf, sAt, List.getD, h]
theorem lines_get (zs : List Int) (n j : Nat) (h : j < (starts zs n).length) : (linesOf zs n).getD j 0 = zs.getD (sAt zs n j) 0 := by
  simp [linesOf, sAt, List.getD, h]
theorem sAt_lt (zs : List Int) (n j : Nat) (h : j < (starts zs n).length) : sAt zs n j < n := by
  refine starts_lt zs n _ ?_
  simp [sAt, List.getD, h]

theorem starts_prefix' (zs : List Int) (m : Nat) : ∀ d, ∃ t, starts zs (m + d) = starts zs m ++ t ∧ ∀ x ∈ t, m ≤ x
  | 0 => ⟨[], by simp, by simp⟩
  | d + 1 => by
    obtain ⟨t, ht, hx⟩ := starts_prefix' zs m d
    cases h : start zs (m + d)
    · exact ⟨t, by rw [← Nat.add_assoc, starts_no h, ht], hx⟩
    · refine ⟨t ++ [m + d], by rw [← Nat.add_assoc, starts_yes h, ht, List.append_assoc], ?_⟩
      intro x hxm
      rcases List.mem_append.1 hxm with h1 | h1
      · exact hx x h1
      · simp at h1; omega

/-- The last run among the first m + 1 records. -/
theorem sAt_last (zs : List Int) (m n : Nat) (hmn : m < n) (hz : -9223372036854775808 ≤ zs.getD m 0 ∧ zs.getD m 0 ≤ 9223372036854775807) :
    (starts zs (m + 1)).length - 1 < (starts zs n).length ∧ sAt zs n ((starts zs (m + 1)).length - 1) ≤ m ∧ wrap64 (zs.getD (sAt zs n ((starts zs (m + 1)).length - 1)) 0 + ((m : Int) - (sAt zs n ((starts zs (m + 1)).length - 1) : Nat))) = zs.getD m 0 := by
  obtain ⟨s, f, h1, h2, h3⟩ := starts_last zs m
  obtain ⟨t, ht, _⟩ := starts_prefix' zs (m + 1) (n - (m + 1))
  rw [show m + 1 + (n - (m + 1)) = n by omega, h1] at ht
  have e : (starts zs (m + 1)).length - 1 = s.length := by rw [h1]; simp
  have e2 : sAt zs n s.length = f := by simp [sAt, ht, List.getD]
  rw [e, e2]
  refine ⟨by rw [ht]; simp, h2, ?_⟩
  generalize zs.getD f 0 = x at *
  generalize zs.getD m 0 = y at *
  unfold wrap64 at *
  omega

/-- There is one more run at record m. -/
theorem sAt_more (zs : List Int) (m n jj : Nat) (hmn : m < n) (h1 : (starts zs m).length - 1 ≤ jj) (h2 : jj < (starts zs (m + 1)).length - 1) : jj + 1 < (starts zs n).length ∧ sAt zs n (jj + 1) = m ∧ jj + 1 ≤ (starts zs (m + 1)).length - 1 := by
  cases hs : start zs m
  · rw [starts_no hs] at h2; omega
  · have hat := starts_at zs m n hmn hs
    rw [starts_yes hs] at h2 ⊢
    simp only [List.length_append, List.length_cons, List.length_nil, Nat.zero_add, Nat.add_sub_cancel] at h2 ⊢
    have e : jj + 1 = (starts zs m).length := by omega
    rw [e]
    exact ⟨hat.1, hat.2, Nat.le_refl _⟩

/-- No more. -/
theorem sAt_stop (zs : List Int) (m n : Nat) (hmn : m < n) (h : (starts zs (m + 1)).length - 1 + 1 < (starts zs n).length) : m < sAt zs n ((starts zs (m + 1)).length - 1 + 1) := by
  have hp := starts_pos zs m
  obtain ⟨t, ht, hx⟩ := starts_prefix' zs (m + 1) (n - (m + 1))
  rw [show m + 1 + (n - (m + 1)) = n by omega] at ht
  rw [show (starts zs (m + 1)).length - 1 + 1 = (starts zs (m + 1)).length by omega] at h ⊢
  have : m + 1 ≤ sAt zs n (starts zs (m + 1)).length := by
    apply hx
    rw [ht] at h
    have hl : 0 < t.length := by simp at h; omega
    simp only [sAt, ht, List.getD]
    rw [List.getElem?_append_right (Nat.le_refl _), Nat.sub_self, List.getElem?_eq_getElem hl, Option.getD_some]
    exact List.getElem_mem hl
  omega

theorem J_mono (zs : List Int) (m : Nat) : (starts zs m).length - 1 ≤ (starts zs (m + 1)).length - 1 := by
  cases hs : start zs m
  · rw [starts_no hs]; omega
  · rw [starts_yes hs]; simp

/-- 'cf[j] - b' gives the run's first record back. -/
theorem back (b : Int) (s : Nat) (hs : s ≤ 1000000) : wrap64 (wrap64 (b + s) - b) = s := by unfold wrap64; omega
theorem forth (b : Int) (s : Nat) : wrap64 (wrap64 (0 + (s : Int)) + b) = wrap64 (b + s) := by unfold wrap64; omega
end Go.Proofs.Qxb6626009a
