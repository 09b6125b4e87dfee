import Derived.Test.Qxb6626088aLinks
namespace Go.Proofs.Qxb6626088a
open Go.RowKit

/-- The walk from 0 behind the push: the old order, then n. -/
def path (n : Nat) (o : Nat → Nat) (k : Nat) : Nat := if k < n then o k else n

/-- The links in the order o. -/
structure Chain (n : Nat) (o : Nat → Nat) (P N : Nat → Int) : Prop where
  lt : ∀ k, k < n → o k < n
  inj : ∀ i j, i < n → j < n → o i = o j → i = j
  first : 0 < n → o 0 = 0
  prev : ∀ k, k < n → P (o k) = (o ((k + n - 1) % n) : Nat)
  next : ∀ k, k < n → N (o k) = (o ((k + 1) % n) : Nat)

/-- The links behind the push. -/
structure Chained (n : Nat) (o : Nat → Nat) (P N : Nat → Int) : Prop where
  le : ∀ k, k ≤ n → path n o k ≤ n
  zero : path n o 0 = 0
  prev0 : P 0 = (n : Nat)
  prev : ∀ k, k ≤ n → P (path n o k) = ((if k = 0 then n else path n o (k - 1) : Nat) : Int)
  next : ∀ k, k ≤ n → N (path n o k) = ((if k = n then 0 else path n o (k + 1) : Nat) : Int)

def newP (n j0 : Nat) (P : Nat → Int) (i : Nat) : Int := if i = 0 then n else if i = n then j0 else P i
def newN (n j0 : Nat) (N : Nat → Int) (i : Nat) : Int := if i = j0 then n else if i = n then 0 else N i

theorem Chain.pushed {n : Nat} {o : Nat → Nat} {P N : Nat → Int} (h : Chain n o P N) (h0 : 0 < n) : Chained n o (newP n (o (n - 1)) P) (newN n (o (n - 1)) N) := by
  have hf := h.first h0
  have hl := h.lt (n - 1) (by omega)
  refine ⟨?_, by unfold path; rw [if_pos h0, hf], by simp [newP], ?_, ?_⟩
  · intro k hk
    unfold path
    split
    · exact Nat.le_of_lt (h.lt k ‹_›)
    · exact Nat.le_refl _
  · intro k hk
    by_cases hkn : k < n
    · have hlt := h.lt k hkn
      rw [show path n o k = o k from if_pos hkn]
      by_cases h1 : k = 0
      · subst h1; simp [newP, hf]
      · have hne : o k ≠ 0 := fun e => h1 (h.inj k 0 hkn h0 (by rw [e, hf]))
        rw [if_neg h1, newP, if_neg hne, if_neg (by omega), h.prev k hkn, show path n o (k - 1) = o (k - 1) from if_pos (by omega)]
        rw [show (k + n - 1) % n = k - 1 by rw [show k + n - 1 = (k - 1) + n by omega, Nat.add_mod_right, Nat.mod_eq_of_lt (by omega)]]
    · obtain rfl : k = n := by omega
      rw [show path k o k = k from if_neg (by omega), if_neg (by omega), newP, if_neg (by omega), if_pos rfl, show path k o (k - 1) = o (k - 1) from if_pos (by omega)]
  · intro k hk
    by_cases hkn : k < n
    · have hlt := h.lt k hkn
      rw [show path n o k = o k from if_pos hkn, if_neg (by omega : ¬ k = n)]
      by_cases h1 : k = n - 1
      · rw [h1, newN, if_pos rfl, show path n o (n - 1 + 1) = n from if_neg (by omega)]
      · have hne : o k ≠ o (n - 1) := fun e => h1 (h.inj k (n - 1) hkn (by omega) e)
        rw [newN, if_neg hne, if_neg (by omega), h.next k hkn, show path n o (k + 1) = o (k + 1) from if_pos (by omega), Nat.mod_eq_of_lt (by omega)]
    · obtain rfl : k = n := by omega
      rw [show path k o k = k from if_neg (by omega), if_pos rfl, newN, if_neg (by omega), if_pos rfl]
      rfl

theorem chained_zero (o : Nat → Nat) : Chained 0 o (fun _ => 0) (fun _ => 0) :=
  ⟨fun k hk => by obtain rfl : k = 0 := by omega
                  simp [path], by simp [path], rfl, fun k hk => by obtain rfl : k = 0 := by omega
                                                                   simp, fun k hk => by obtain rfl : k = 0 := by omega
                                                                                        simp⟩

/-- Where the places stand: all of 0 .. m - 1. -/
def Places (ps : List Place) (m : Nat) (b : Nat → Nat) (P N : Nat → Int) : Prop := ps.length = m ∧ ∀ i, i < m → ps[i]? = some (ptr (b i), P i, N i)

theorem places_pushed {ps : List Place} {n : Nat} {b : Nat → Nat} {P N : Nat → Int} (h : Places ps n b P N) (eb j0 : Nat) (hj : j0 < n) :
    Places (Qxb6626088a.pushed ps (ptr eb) n j0) (n + 1) (fun i => if i = n then eb else b i) (newP n j0 P) (newN n j0 N) := by
  obtain ⟨hl, ha⟩ := h
  generalize hX : ps ++ [(ptr eb, (j0 : Int), (0 : Int))] = X
  have lX : X.length = n + 1 := by rw [← hX]; simp [hl]
  have hY : Qxb6626088a.pushed ps (ptr eb) n j0 = setP (setN X j0 n) 0 n := by unfold Qxb6626088a.pushed; rw [hX]
  have aX : ∀ i, i < n + 1 → X[i]? = some (ptr (if i = n then eb else b i), (if i = n then (j0 : Int) else P i), (if i = n then 0 else N i)) := by
    intro i hi
    subst hX
    by_cases e : i = n
    · subst e
      rw [List.getElem?_append_right (by omega)]
      simp [hl]
    · rw [List.getElem?_append_left (by omega), ha i (by omega)]
      simp [e]
  refine ⟨by rw [hY, setP_len, setN_len, lX], fun i hi => ?_⟩
  have x0 := aX 0 (by omega)
  have xj := aX j0 (by omega)
  obtain ⟨hj2, xj2⟩ := List.getElem?_eq_some_iff.1 xj
  have h0' : 0 < (setN X j0 n).length := by rw [setN_len]; omega
  rw [hY, setP_eq _ 0 h0', List.getElem?_set]
  have aN : ∀ i, i < n + 1 → (setN X j0 n)[i]? = some (ptr (if i = n then eb else b i), (if i = n then (j0 : Int) else P i), newN n j0 N i) := by
    intro i hi
    rw [setN_eq X j0 hj2, List.getElem?_set]
    by_cases e : j0 = i
    · subst e
      rw [if_pos rfl, if_pos hj2, xj2]
      simp [newN]
    · rw [if_neg e, aX i hi, newN, if_neg (Ne.symm e)]
  obtain ⟨_, n0⟩ := List.getElem?_eq_some_iff.1 (aN 0 (by omega))
  by_cases e : 0 = i
  · subst e
    rw [if_pos rfl, if_pos h0', n0]
    simp [newP]
  · rw [if_neg e, aN i hi, newP, if_neg (Ne.symm e)]

theorem places_one (b : Nat) : Places [(ptr b, 0, 0)] 1 (fun _ => b) (fun _ => 0) (fun _ => 0) := ⟨rfl, fun i hi => by
  obtain rfl : i = 0 := by omega
  rfl⟩

/-- 'ZZPush' onto the line in the order o. -/
theorem push4 (B L g cap eb n : Nat) (ps : List Place) (o b : Nat → Nat) (P N : Nat → Int) (s : Int) (hh : Bool) (w : World) (hL : Line w B L (.slice (some ⟨g, 0, none⟩) n cap) ps) (hP : Places ps n b P N) (hC : Chain n o P N) (hn1 : n ≤ 1048576) (hE : Ent w eb s hh) (hB : B ≤ w.heap.size) :
    Calls Try.prog 8 #[.pointer (some ⟨L, 0, none⟩), .pointer (some ⟨eb, 0, none⟩)] w fun e w' => e = .returned (.tuple #[]) ∧ ∃ g' cap' ps' P' N', Line w' B L (.slice (some ⟨g', 0, none⟩) (n + 1) cap') ps' ∧ Places ps' (n + 1) (fun i => if i = n then eb else b i) P' N' ∧ Chained n o P' N' ∧ Ent w' eb n false ∧ Fr w w' (fun k => k = g ∨ k = L ∨ k = eb) := by
  have key : Calls Try.prog 16 #[.pointer (some ⟨L, 0, none⟩), .pointer (some ⟨eb, 0, none⟩)] w fun e w' => e = .returned (.tuple #[]) ∧ ∃ g' cap' ps' P' N', Line w' B L (.slice (some ⟨g', 0, none⟩) (n + 1) cap') ps' ∧ Places ps' (n + 1) (fun i => if i = n then eb else b i) P' N' ∧ Chained n o P' N' ∧ Ent w' eb n false ∧ Fr w w' (fun k => k = g ∨ k = L ∨ k = eb) := by
    by_cases h0 : n = 0
    · subst h0
      obtain rfl : ps = [] := List.eq_nil_of_length_eq_zero hP.1
      refine (push_empty B L g cap eb s hh w hL hE hB).mono ?_
      rintro e w' ⟨rfl, g', cap', h1, h2, h4⟩
      refine ⟨rfl, g', cap', _, _, _, h1, ⟨rfl, fun i hi => ?_⟩, chained_zero o, h2, h4⟩
      obtain rfl : i = 0 := by omega
      rfl
    · have hp : 0 < ps.length := by rw [hP.1]; omega
      have hj : (ps[0]).2.1 = ((o (n - 1) : Nat) : Int) := by
        obtain ⟨_, e⟩ := List.getElem?_eq_some_iff.1 (hP.2 0 (by omega))
        rw [e]
        have := hC.prev 0 (by omega)
        rw [hC.first (by omega)] at this
        show P 0 = _
        rw [this, show (0 + n - 1) % n = n - 1 by rw [Nat.zero_add, Nat.mod_eq_of_lt (by omega)]]
      refine (push_more B L g n cap eb (o (n - 1)) ps s hh w hL (by omega) hn1 hE hp hj (hC.lt _ (by omega)) hB).mono ?_
      rintro e w' ⟨rfl, g', cap', h1, h2, _, h4⟩
      exact ⟨rfl, g', cap', _, _, _, h1, places_pushed hP eb _ (hC.lt _ (by omega)), hC.pushed (by omega), h2, h4⟩
  go_enter Try.func8, Try.ntmps8
  go_wp2_with fail
  refine key.mono ?_
  rintro e w' ⟨rfl, h⟩
  go_wp2_with fail
  go_end0
  exact ⟨rfl, h⟩
end Go.Proofs.Qxb6626088a
