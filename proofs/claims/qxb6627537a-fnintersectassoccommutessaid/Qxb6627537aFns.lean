import Derived.Test.Qxb6627537aWords
namespace Go.Proofs.Qxb6627537a
open Go.RowKit

set_option maxRecDepth 100000 in
theorem canon_any (v : Value) (xs : List Nat) (m : Nat) (w : World) (h : Words w v xs) (hc : Canon xs) (hm : xs.length ≤ m) (hm1 : m ≤ 1048576) :
    Calls Try.prog 10 #[v, .int .i64 m] w fun e w' => e = .returned (.bool true) ∧ w' = w := by
  obtain ⟨a, cap, rfl, hx⟩ := h.val
  unfold Canon at hc
  obtain ⟨n, hlen⟩ : ∃ n, xs.length = n := ⟨_, rfl⟩
  rw [hlen] at hx hm hc ⊢
  have b2 : ¬ ((m : Int) < n) := by omega
  by_cases h0 : n = 0
  · subst h0
    clear hx hc
    go_enter Try.func10, Try.ntmps10
    go_wp2
    go_ret
    exact ⟨rfl, rfl⟩
  · obtain ⟨b, off, rfl, hb, hx⟩ := hx (by omega)
    have c0 := hx (n - 1) (by omega)
    have hne := hc (by omega)
    generalize xs.getD (n - 1) 0 = x at c0 hne
    have b3 : ((x : Int) == 0) = false := by simp; omega
    have b1 : 0 < n := by omega
    clear hx hc
    go_enter Try.func10, Try.ntmps10
    go_wp2
    go_ret
    exact ⟨rfl, rfl⟩

def Sub (xs ys : List Nat) : Prop := xs.length ≤ ys.length ∧ ∀ i, i < xs.length → xs.getD i 0 &&& ys.getD i 0 = xs.getD i 0
def SubPost (xs ys : List Nat) (w : World) (e : Ending) (w' : World) : Prop := ∃ r : Bool, e = .returned (.bool r) ∧ (r = true → Sub xs ys) ∧ Kept w w'

theorem and_of_not {x y : Nat} (hx : x < 18446744073709551616) (hy : y < 18446744073709551616) (h : x &&& (18446744073709551615 - y) = 0) : x &&& y = x := by
  apply Nat.eq_of_testBit_eq
  intro i
  by_cases hi : i < 64
  · have h1 : (x &&& (18446744073709551615 - y)).testBit i = false := by rw [h]; simp
    have e : (18446744073709551615 : Nat) - y = 2 ^ 64 - (y + 1) := by omega
    rw [Nat.testBit_and, e, Nat.testBit_two_pow_sub_succ (by omega)] at h1
    rw [Nat.testBit_and]
    cases hxb : x.testBit i
    · simp
    · rw [hxb] at h1
      simp [hi] at h1
      simp [h1]
  · have hp : 2 ^ 64 ≤ 2 ^ i := Nat.pow_le_pow_right (by decide) (by omega)
    rw [Nat.testBit_and, Nat.testBit_lt_two_pow (x := x) (by omega)]
    simp

set_option maxHeartbeats 800000 in
set_option maxRecDepth 100000 in
theorem sub_any (u v : Value) (xs ys : List Nat) (w : World) (hu : Words w u xs) (hv : Words w v ys) (hx1 : xs.length ≤ 1048576) (hy1 : ys.length ≤ 1048576) :
    Calls Try.prog 14 #[.agg #[u], .agg #[v]] w (SubPost xs ys w) := by
  obtain ⟨a, cap, rfl, hx⟩ := hu.val
  obtain ⟨a2, cap2, rfl, hy⟩ := hv.val
  have HU : Hid (∀ i, xs.getD i 0 < 18446744073709551616) := hu.get
  have HV : Hid (∀ i, ys.getD i 0 < 18446744073709551616) := hv.get
  obtain ⟨n, hlen⟩ : ∃ n, xs.length = n := ⟨_, rfl⟩
  obtain ⟨m, hlen2⟩ : ∃ m, ys.length = m := ⟨_, rfl⟩
  have HN : Hid (xs.length = n ∧ ys.length = m) := ⟨hlen, hlen2⟩
  rw [hlen] at hx hx1 ⊢
  rw [hlen2] at hy hy1 ⊢
  clear hu hv hlen hlen2
  by_cases hnm : n ≤ m
  · have b2 : ¬ ((m : Int) < n) := by omega
    have HX : Hid (0 < n → ∃ b off, a = some ⟨b, off, none⟩ ∧ b < w.heap.size ∧ ∀ i, i < n → w.cell? ⟨b, off + i, none⟩ = some (.int .u64 (xs.getD i 0 : Nat))) := hx
    have HY : Hid (0 < m → ∃ b off, a2 = some ⟨b, off, none⟩ ∧ b < w.heap.size ∧ ∀ i, i < m → w.cell? ⟨b, off + i, none⟩ = some (.int .u64 (ys.getD i 0 : Nat))) := hy
    clear hx hy
    go_enter Try.func14, Try.ntmps14
    go_wp2_with fail
    have hK : Kept w ((w.alloc (.cells #[.slice a n cap] 27)).alloc (.cells #[.slice a2 m cap2] 27)) := (Kept.alloc _ _).trans (Kept.alloc _ _)
    have cb : ((w.alloc (.cells #[.slice a n cap] 27)).alloc (.cells #[.slice a2 m cap2] 27)).cell? ⟨w.heap.size + 1, 0, none⟩ = some (.slice a2 m cap2) := by
      have e := heap_alloc_new (w.alloc (.cells #[.slice a n cap] 27)) (.cells #[.slice a2 m cap2] 27)
      rw [World.size_alloc] at e
      rw [cell_of_row _ _ _ _ _ _ e]; rfl
    generalize (w.alloc (.cells #[.slice a n cap] 27)).alloc (.cells #[.slice a2 m cap2] 27) = w2 at hK cb ⊢
    go_loopw [17] (fun i wr => ∃ k : Nat, k ≤ n ∧ i = .int .i64 k ∧ (∀ i, i < k → xs.getD i 0 &&& ys.getD i 0 = xs.getD i 0) ∧ wr = w2) (fun i _ => n - (intOf i).toNat)
    case atStart => exact ⟨0, by omega, rfl, fun i hi => by omega, rfl⟩
    case round =>
      obtain ⟨k, hk, rfl, hS, rfl⟩ := hrel
      have HS : Hid (∀ i, i < k → xs.getD i 0 &&& ys.getD i 0 = xs.getD i 0) := hS
      clear hS
      by_cases hlt : k < n
      · obtain ⟨b, off, rfl, hb, hx⟩ := HX.out (by omega)
        obtain ⟨b', off', rfl, hb', hy⟩ := HY.out (by omega)
        have c0 := hx k hlt
        have c1 := hy k (by omega)
        rw [← hK.cell _ (by exact hb)] at c0
        rw [← hK.cell _ (by exact hb')] at c1
        have r0 := HU.out k
        have r1 := HV.out k
        have b1 : (k : Int) < n := by omega
        have b3 : (k : Int) < m := by omega
        have HXY : Hid (∀ x y, x = xs.getD k 0 → y = ys.getD k 0 → x &&& y = x → ∀ i, i < k + 1 → xs.getD i 0 &&& ys.getD i 0 = xs.getD i 0) := fun x y ex ey h i hi => by
          by_cases e : i = k
          · subst e; rw [← ex, ← ey]; exact h
          · exact HS.out i (by omega)
        generalize hX : xs.getD k 0 = x at c0 r0
        generalize hY : ys.getD k 0 = y at c1 r1
        have HXE : Hid (xs.getD k 0 = x ∧ ys.getD k 0 = y) := ⟨hX, hY⟩
        have hbit := u64_andNot_nat x y r0 r1
        clear hx hy hX hY
        by_cases hz : x &&& (18446744073709551615 - y) = 0
        · rw [hz] at hbit
          have HZ := and_of_not r0 r1 hz
          have HZ2 : Hid (x &&& y = x) := HZ
          clear HZ hz
          go_wp2_with fail
          go_roundw
          case rel => exact ⟨k + 1, by omega, by go_num, HXY.out x y HXE.out.1.symm HXE.out.2.symm HZ2.out, by trivial⟩
          case measure => simp [intOf]; omega
        · generalize x &&& (18446744073709551615 - y) = z at hbit hz
          have hz2 : ((z : Int) == 0) = false := by simp; omega
          go_wp2_with fail
          go_ret
          exact ⟨false, rfl, (fun h => by cases h), hK⟩
      · have ek : n = k := by omega
        subst ek
        go_wp2_with fail
        go_ret
        exact ⟨true, rfl, fun _ => ⟨by rw [HN.out.1, HN.out.2]; exact hnm, by rw [HN.out.1]; exact HS.out⟩, hK⟩
  · have b2 : ((m : Int) < n) := by omega
    clear hx hy
    go_enter Try.func14, Try.ntmps14
    go_wp2_with fail
    go_ret
    exact ⟨false, rfl, (fun h => by cases h), (Kept.alloc _ _).trans (Kept.alloc _ _)⟩
end Go.Proofs.Qxb6627537a
