import Derived.RowKit
namespace Go.Proofs.Qxb6626009a
open Go.RowKit

/-- Record i starts a run. -/
def start (zs : List Int) (i : Nat) : Bool := i == 0 || zs.getD i 0 != wrap64 (zs.getD (i - 1) 0 + 1)
/-- The run starts among the first k records, in order. -/
def starts (zs : List Int) : Nat → List Nat
  | 0 => []
  | k + 1 => if start zs k then starts zs k ++ [k] else starts zs k
def firstsOf (b : Int) (zs : List Int) (k : Nat) : List Int := (starts zs k).map fun i => wrap64 (b + (i : Nat))
def linesOf (zs : List Int) (k : Nat) : List Int := (starts zs k).map fun i => zs.getD i 0

theorem starts_yes {zs : List Int} {k : Nat} (h : start zs k = true) : starts zs (k + 1) = starts zs k ++ [k] := by simp [starts, h]
theorem starts_no {zs : List Int} {k : Nat} (h : start zs k = false) : starts zs (k + 1) = starts zs k := by simp [starts, h]
theorem starts_len (zs : List Int) : ∀ k, (starts zs k).length ≤ k
  | 0 => by simp [starts]
  | k + 1 => by
    have := starts_len zs k
    cases h : start zs k
    · rw [starts_no h]; omega
    · rw [starts_yes h]; simp; omega
theorem starts_lt (zs : List Int) : ∀ k, ∀ i ∈ starts zs k, i < k
  | 0 => by simp [starts]
  | k + 1 => by
    intro i hi
    cases h : start zs k
    · rw [starts_no h] at hi
      have := starts_lt zs k i hi; omega
    · rw [starts_yes h] at hi
      rcases List.mem_append.1 hi with hi | hi
      · have := starts_lt zs k i hi; omega
      · simp at hi; omega
theorem firsts_length (b : Int) (zs : List Int) (k : Nat) : (firstsOf b zs k).length = (starts zs k).length := by simp [firstsOf]
theorem lines_length (zs : List Int) (k : Nat) : (linesOf zs k).length = (starts zs k).length := by simp [linesOf]

/-- The last run's start f: the records from f to the last follow one another a line each. -/
theorem starts_last (zs : List Int) : ∀ k, ∃ s f, starts zs (k + 1) = s ++ [f] ∧ f ≤ k ∧ wrap64 (zs.getD f 0 - f) = wrap64 (zs.getD k 0 - k)
  | 0 => ⟨[], 0, by simp [starts, start], by omega, rfl⟩
  | k + 1 => by
    obtain ⟨s, f, h1, h2, h3⟩ := starts_last zs k
    cases h : start zs (k + 1)
    · rw [starts_no h, h1]
      refine ⟨s, f, rfl, by omega, h3.trans ?_⟩
      have h5 : zs.getD (k + 1) 0 = wrap64 (zs.getD k 0 + 1) := by
        simp only [start, Nat.add_sub_cancel, Bool.or_eq_false_iff] at h
        simpa using h.2
      rw [h5]
      generalize zs.getD k 0 = z
      unfold wrap64
      omega
    · exact ⟨_, _, starts_yes h, by omega, rfl⟩

theorem starts_pos (zs : List Int) (k : Nat) : 0 < (starts zs (k + 1)).length := by
  obtain ⟨s, f, h, _⟩ := starts_last zs k
  rw [h]; simp

/-- The test that 'add' makes. -/
theorem test_iff (b : Int) (zs : List Int) (k n : Nat) (hn : (starts zs (k + 1)).length = n + 1) (hz : -9223372036854775808 ≤ zs.getD (k + 1) 0 ∧ zs.getD (k + 1) 0 ≤ 9223372036854775807) :
    wrap64 (zs.getD (k + 1) 0 - wrap64 (b + (k + 1 : Nat))) = wrap64 ((linesOf zs (k + 1)).getD n 0 - (firstsOf b zs (k + 1)).getD n 0) ↔ start zs (k + 1) = false := by
  obtain ⟨s, f, h1, h2, h3⟩ := starts_last zs k
  have hs : s.length = n := by rw [h1] at hn; simpa using hn
  have e1 : (linesOf zs (k + 1)).getD n 0 = zs.getD f 0 := by simp [linesOf, h1, ← hs, List.getD]
  have e2 : (firstsOf b zs (k + 1)).getD n 0 = wrap64 (b + f) := by simp [firstsOf, h1, ← hs, List.getD]
  rw [e1, e2]
  simp only [start, Nat.add_sub_cancel, Bool.or_eq_false_iff]
  have e3 : ((k + 1 == 0) = false) = True := by simp
  simp only [e3, true_and, bne_eq_false_iff_eq]
  generalize zs.getD (k + 1) 0 = y at *
  generalize zs.getD k 0 = z at *
  generalize zs.getD f 0 = u at *
  push_cast
  unfold wrap64 at *
  omega

/-- What was found among the first m is the beginning of what is found among the first n. -/
theorem starts_prefix (zs : List Int) (m : Nat) : ∀ d, ∃ t, starts zs (m + d) = starts zs m ++ t
  | 0 => ⟨[], by simp⟩
  | d + 1 => by
    obtain ⟨t, ht⟩ := starts_prefix zs m d
    cases h : start zs (m + d)
    · exact ⟨t, by rw [← Nat.add_assoc, starts_no h, ht]⟩
    · exact ⟨t ++ [m + d], by rw [← Nat.add_assoc, starts_yes h, ht, List.append_assoc]⟩

/-- A start's place among all of them. -/
theorem starts_at (zs : List Int) (m n : Nat) (hmn : m < n) (h : start zs m = true) : (starts zs m).length < (starts zs n).length ∧ (starts zs n).getD (starts zs m).length 0 = m := by
  obtain ⟨t, ht⟩ := starts_prefix zs (m + 1) (n - (m + 1))
  rw [show m + 1 + (n - (m + 1)) = n by omega, starts_yes h] at ht
  rw [ht]
  constructor
  · simp
  · simp [List.getD]

theorem firsts_at (b : Int) (zs : List Int) (m n : Nat) (hmn : m < n) (h : start zs m = true) : (firstsOf b zs n).getD (starts zs m).length 0 = wrap64 (b + m) := by
  obtain ⟨h1, h2⟩ := starts_at zs m n hmn h
  simp only [List.getD, List.getElem?_eq_getElem h1, Option.getD_some] at h2
  simp [firstsOf, List.getD, h2, h1]
theorem lines_at (zs : List Int) (m n : Nat) (hmn : m < n) (h : start zs m = true) : (linesOf zs n).getD (starts zs m).length 0 = zs.getD m 0 := by
  obtain ⟨h1, h2⟩ := starts_at zs m n hmn h
  simp only [List.getD, List.getElem?_eq_getElem h1, Option.getD_some] at h2
  simp [linesOf, List.getD, h2, h1]

end Go.Proofs.Qxb6626009a
