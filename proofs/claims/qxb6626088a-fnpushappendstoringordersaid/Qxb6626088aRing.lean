import Derived.Test.Qxb6626088aPush
namespace Go.Proofs.Qxb6626088a
open Go.RowKit

def ptr (b : Nat) : Value := .pointer (some ⟨b, 0, none⟩)
def prevOf (n k : Nat) : Nat := if k = 0 then n - 1 else k - 1
def nextOf (n k : Nat) : Nat := if k + 1 = n then 0 else k + 1

/-- The ring over the entries in bs: place k holds entry k, before it k - 1, behind it k + 1, round. -/
def Ring (ps : List Place) (bs : List Nat) : Prop :=
  ps.length = bs.length ∧ ∀ k (h : k < ps.length) (h' : k < bs.length), ps[k] = (ptr (bs[k]), ((prevOf bs.length k : Nat) : Int), ((nextOf bs.length k : Nat) : Int))

theorem ring_one (b : Nat) : Ring [(ptr b, 0, 0)] [b] := ⟨rfl, fun k h _ => by
  obtain rfl : k = 0 := by simpa using h
  rfl⟩

theorem ring_push {ps : List Place} {bs : List Nat} (h : Ring ps bs) (n : Nat) (hn : bs.length = n) (h0 : 0 < n) (b : Nat) : Ring (pushed ps (ptr b) n (n - 1)) (bs ++ [b]) := by
  subst hn
  obtain ⟨hl, hk⟩ := h
  generalize hX : ps ++ [(ptr b, ((bs.length - 1 : Nat) : Int), (0 : Int))] = X
  have l1 : X.length = bs.length + 1 := by rw [← hX]; simp [hl]
  have l2 : (setN X (bs.length - 1) bs.length).length = bs.length + 1 := by rw [setN_len, l1]
  have hY : pushed ps (ptr b) bs.length (bs.length - 1) = setP (setN X (bs.length - 1) bs.length) 0 bs.length := by unfold pushed; rw [hX]
  rw [hY]
  refine ⟨by rw [setP_len, l2]; simp, ?_⟩
  intro k h1 h2
  have hk1 : k < bs.length + 1 := by
    have := h1
    rw [setP_len, l2] at this
    exact this
  have hold : ∀ j (hj : j < bs.length) (hj' : j < X.length), X[j] = (ptr (bs[j]), ((prevOf bs.length j : Nat) : Int), ((nextOf bs.length j : Nat) : Int)) := by
    intro j hj hj'
    subst hX
    rw [List.getElem_append_left (by omega)]
    exact hk j (by omega) hj
  have hnew : X[bs.length]'(by omega) = (ptr b, ((bs.length - 1 : Nat) : Int), (0 : Int)) := by
    subst hX
    rw [List.getElem_append_right (by omega)]
    simp [hl]
  have hset : ∀ (qs : List Place) (m : Nat) (hm : m < qs.length) (x : Int) (j : Nat) (hj : j < qs.length), (setN qs m x)[j]'(by rw [setN_len]; exact hj) = if m = j then ((qs[j]).1, (qs[j]).2.1, x) else qs[j] := by
    intro qs m hm x j hj
    simp only [setN_eq qs m hm x, List.getElem_set]
    split
    · rename_i e; subst e; rfl
    · rfl
  have hsetP : ∀ (qs : List Place) (m : Nat) (hm : m < qs.length) (x : Int) (j : Nat) (hj : j < qs.length), (setP qs m x)[j]'(by rw [setP_len]; exact hj) = if m = j then ((qs[j]).1, x, (qs[j]).2.2) else qs[j] := by
    intro qs m hm x j hj
    simp only [setP_eq qs m hm x, List.getElem_set]
    split
    · rename_i e; subst e; rfl
    · rfl
  have e1 := hsetP (setN X (bs.length - 1) bs.length) 0 (by omega) bs.length k (by omega)
  rw [hset X (bs.length - 1) (by omega) bs.length k (by omega)] at e1
  rw [e1]
  have hlen : (bs ++ [b]).length = bs.length + 1 := by simp
  by_cases hkn : k = bs.length
  · subst hkn
    have a1 : prevOf (bs ++ [b]).length bs.length = bs.length - 1 := by unfold prevOf; rw [if_neg (by omega)]
    have a2 : nextOf (bs ++ [b]).length bs.length = 0 := by unfold nextOf; rw [if_pos hlen.symm]
    rw [hnew, if_neg (by omega), if_neg (by omega), a1, a2, List.getElem_append_right (by omega)]
    simp
  · have hlt : k < bs.length := by omega
    have a1 : prevOf (bs ++ [b]).length k = if 0 = k then bs.length else prevOf bs.length k := by
      rw [hlen]; unfold prevOf
      by_cases ha : k = 0
      · rw [if_pos ha, if_pos ha.symm, Nat.add_sub_cancel]
      · rw [if_neg ha, if_neg (Ne.symm ha), if_neg ha]
    have a2 : nextOf (bs ++ [b]).length k = if bs.length - 1 = k then bs.length else nextOf bs.length k := by
      rw [hlen]; unfold nextOf
      rw [if_neg (by omega)]
      by_cases ha : bs.length - 1 = k
      · rw [if_pos ha]; omega
      · rw [if_neg ha, if_neg (by omega)]
    rw [hold k hlt (by omega), a1, a2, List.getElem_append_left hlt]
    by_cases ha : 0 = k
    · by_cases hb : bs.length - 1 = k
      · simp only [if_pos ha, if_pos hb]
      · simp only [if_pos ha, if_neg hb]
    · by_cases hb : bs.length - 1 = k
      · simp only [if_neg ha, if_pos hb]
      · simp only [if_neg ha, if_neg hb]

/-- 'ZZPush' onto a ring, of whatever length. -/
theorem push_any (B L eb n : Nat) (lv : Value) (ps : List Place) (bs : List Nat) (s : Int) (hh : Bool) (w : World) (hL : Line w B L lv ps) (hR : Ring ps bs) (hn : bs.length = n) (hn1 : n ≤ 1048576) (hE : Ent w eb s hh) (hB : B ≤ w.heap.size) (hnil : n = 0 → lv = .slice none 0 0) :
    Calls Try.prog 16 #[.pointer (some ⟨L, 0, none⟩), .pointer (some ⟨eb, 0, none⟩)] w fun e w' => e = .returned (.tuple #[]) ∧ ∃ g' cap' ps', Line w' B L (.slice (some ⟨g', 0, none⟩) (n + 1) cap') ps' ∧ Ring ps' (bs ++ [eb]) ∧ Ent w' eb n false ∧ Fr w w' (fun k => some k = lv.ownBlock ∨ k = L ∨ k = eb) := by
  by_cases h0 : n = 0
  · subst h0
    obtain rfl : bs = [] := List.eq_nil_of_length_eq_zero hn
    obtain rfl : ps = [] := List.eq_nil_of_length_eq_zero (by rw [hR.1]; rfl)
    obtain rfl := hnil rfl
    refine (push_first B L eb s hh w hL hE hB).mono ?_
    rintro e w' ⟨rfl, g', cap', h1, h2, _, h4⟩
    exact ⟨rfl, g', cap', _, h1, ring_one eb, h2, h4.mono (fun k _ h => .inr h)⟩
  · obtain ⟨g, cap, rfl⟩ : ∃ g c, lv = .slice (some ⟨g, 0, none⟩) n c := by
      rcases hL.own.2 with ⟨e, e2⟩ | ⟨g0, c0, cur, hv, _⟩
      · rw [hR.1, hn] at e2; omega
      · exact ⟨g0, c0, by rw [hv, hR.1, hn]⟩
    have hp : 0 < ps.length := by rw [hR.1, hn]; omega
    have hj : (ps[0]).2.1 = ((n - 1 : Nat) : Int) := by rw [hR.2 0 hp (by omega)]; simp [prevOf, hn]
    refine (push_more B L g n cap eb (n - 1) ps s hh w hL (by omega) hn1 hE hp hj (by omega) hB).mono ?_
    rintro e w' ⟨rfl, g', cap', h1, h2, _, h4⟩
    exact ⟨rfl, g', cap', _, h1, ring_push hR n hn (by omega) eb, h2, h4.mono (fun k _ h => h.imp (fun e => by simp [Value.ownBlock, e]) id)⟩
end Go.Proofs.Qxb6626088a
