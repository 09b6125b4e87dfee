import Derived.Test.Qxb6625815aMatch
namespace Go.Proofs.Qxb6625815a
open Go.RowKit

/-- What the fields count. -/
def sumN : List (ByteArray × Int) → Nat
  | [] => 0
  | f :: fs => f.1.size + 24 + sumN fs
theorem sumN_append : ∀ (a b : List (ByteArray × Int)), sumN (a ++ b) = sumN a + sumN b
  | [], b => by simp [sumN]
  | f :: a, b => by simp only [List.cons_append, sumN, sumN_append a b]; omega
theorem sumN_take_succ (fs : List (ByteArray × Int)) (k : Nat) (h : k < fs.length) : sumN (fs.take (k + 1)) = sumN (fs.take k) + ((fs[k]).1.size + 24) := by
  rw [List.take_succ_eq_append_getElem h, sumN_append]; rfl

set_option maxHeartbeats 1600000 in
set_option maxRecDepth 100000 in
theorem addType_some (T id kd el ky ln : Int) (nm : ByteArray) (b off c n : Nat) (fs : List (ByteArray × Int)) (w : World) (t0 : 0 ≤ T) (t1 : T ≤ 1048576) (hnm : nm.size ≤ 9223372036854775807) (hn : fs.length = n) (hn1 : n ≤ 9223372036854775807) (hbl : b < w.heap.size)
    (hin : ∀ k (h : k < fs.length), w.cell? ⟨b, off + k * 2, none⟩ = some (.string (fs[k]).1) ∧ w.cell? ⟨b, off + k * 2 + 1, none⟩ = some (.int .i64 (fs[k]).2)) (hsz : ∀ f ∈ fs, f.1.size ≤ 9223372036854775807) :
    Calls Try.prog 6 #[.int .i64 T, .agg #[.int .i64 id, .string nm, .int .i64 kd, .slice (some ⟨b, off, none⟩) n c, .int .i64 el, .int .i64 ky, .int .i64 ln]] w fun e w' => ∃ r : Int, e = .returned (.int .i64 r) ∧ (r ≤ 1048576 → T + nm.size + 64 + sumN fs ≤ 1048576) ∧ Below w.heap.size w w' := by
  have HN : Hid (fs.length = n) := hn
  have HS : Hid (∀ f ∈ fs, f.1.size ≤ 9223372036854775807) := hsz
  have HI : Hid (∀ k (h : k < fs.length) o1, (w.alloc o1).cell? ⟨b, off + k * 2, none⟩ = some (.string (fs[k]).1) ∧ (w.alloc o1).cell? ⟨b, off + k * 2 + 1, none⟩ = some (.int .i64 (fs[k]).2)) := by
    intro k h o1
    have hb : ∀ o, (w.alloc o1).cell? ⟨b, o, none⟩ = w.cell? ⟨b, o, none⟩ := fun o => World.cell?_of_block (Below.heap_alloc _ _ _ hbl)
    rw [hb, hb]; exact hin k h
  have hB : Below w.heap.size w (w.alloc (.cells #[.int .i64 id, .string nm, .int .i64 kd, .slice (some ⟨b, off, none⟩) n c, .int .i64 el, .int .i64 ky, .int .i64 ln] 25)) := (Below.refl _ _).alloc (Nat.le_refl _) _
  clear hn hin hsz hbl
  by_cases h1 : 1048576 < nm.size
  · go_enter Try.func6, Try.ntmps6
    go_wp2
    go_ret
    exact ⟨_, rfl, fun h => by omega, hB⟩
  by_cases h2 : 1048576 < T + nm.size + 64
  · go_enter Try.func6, Try.ntmps6
    go_wp2
    go_ret
    exact ⟨_, rfl, fun h => by omega, hB⟩
  go_enter Try.func6, Try.ntmps6
  go_wp2_with fail
  go_loop [0, 5] (fun tt i => ∃ k : Nat, k ≤ n ∧ i = .int .i64 k ∧ tt = .int .i64 (T + nm.size + 64 + (sumN (fs.take k) : Nat)) ∧ T + nm.size + 64 + (sumN (fs.take k) : Nat) ≤ 1048576) (fun _ i => n - (intOf i).toNat)
  case atStart => exact ⟨0, by omega, rfl, by simp [sumN]; omega, by simp [sumN]; omega⟩
  case round =>
    obtain ⟨k, hk, rfl, rfl, hle⟩ := hrel
    by_cases hlt : k < n
    · have hkl : k < fs.length := by rw [HN.out]; exact hlt
      obtain ⟨a1, a2⟩ := HI.out k hkl (.cells #[.int .i64 id, .string nm, .int .i64 kd, .slice (some ⟨b, off, none⟩) n c, .int .i64 el, .int .i64 ky, .int .i64 ln] 25)
      have hs := sumN_take_succ fs k hkl
      have hz := HS.out (fs[k]) (List.getElem_mem _)
      have HSK : Hid (sumN (fs.take (k + 1)) = sumN (fs.take k) + ((fs[k]).1.size + 24)) := hs
      clear hs
      generalize (fs[k]).1 = fnm at *
      generalize sumN (fs.take k) = S at *
      by_cases h3 : 1048576 < fnm.size
      · go_wp2
        go_ret
        exact ⟨_, rfl, fun h => by omega, hB⟩
      by_cases h4 : 1048576 < T + nm.size + 64 + S + (fnm.size + 24)
      · go_wp2
        go_ret
        exact ⟨_, rfl, fun h => by omega, hB⟩
      go_wp2
      go_round
      case rel => exact ⟨k + 1, by omega, by go_num, by rw [HSK.out]; go_num, by rw [HSK.out]; omega⟩
      case measure => simp [intOf]; omega
    · have ek : n = k := by omega
      subst ek
      rw [List.take_of_length_le (by rw [HN.out]; exact Nat.le_refl _)] at *
      go_wp2
      go_ret
      exact ⟨⟨_, rfl⟩, hB⟩

set_option maxHeartbeats 1600000 in
set_option maxRecDepth 100000 in
theorem addType_zero (T id kd el ky ln : Int) (nm : ByteArray) (a : Option Addr) (c : Nat) (w : World) (t0 : 0 ≤ T) (t1 : T ≤ 1048576) (hnm : nm.size ≤ 9223372036854775807) :
    Calls Try.prog 6 #[.int .i64 T, .agg #[.int .i64 id, .string nm, .int .i64 kd, .slice a 0 c, .int .i64 el, .int .i64 ky, .int .i64 ln]] w fun e w' => ∃ r : Int, e = .returned (.int .i64 r) ∧ (r ≤ 1048576 → T + nm.size + 64 + sumN [] ≤ 1048576) ∧ Below w.heap.size w w' := by
  have hB : Below w.heap.size w (w.alloc (.cells #[.int .i64 id, .string nm, .int .i64 kd, .slice a 0 c, .int .i64 el, .int .i64 ky, .int .i64 ln] 25)) := (Below.refl _ _).alloc (Nat.le_refl _) _
  by_cases h1 : 1048576 < nm.size
  · go_enter Try.func6, Try.ntmps6
    go_wp2
    go_ret
    exact ⟨_, rfl, fun h => by omega, hB⟩
  by_cases h2 : 1048576 < T + nm.size + 64
  · go_enter Try.func6, Try.ntmps6
    go_wp2
    go_ret
    exact ⟨_, rfl, fun h => by omega, hB⟩
  go_enter Try.func6, Try.ntmps6
  go_wp2_with fail
  refine wp_loop_rounds 1 ?_
  rw [rounds_succ]
  go_wp2
  go_ret
  exact ⟨_, rfl, fun h => by simp [sumN]; omega, hB⟩

/-- Some bool is handed back. -/
def IsBool (e : Ending) : Prop := ∃ bo, e = .returned (.bool bo)
theorem IsBool.mk (b : Bool) : IsBool (.returned (.bool b)) := ⟨b, rfl⟩

set_option maxHeartbeats 3200000 in
set_option maxRecDepth 100000 in
theorem bytes_zero (id kd el ky ln : Int) (nm : ByteArray) (ab : Option Addr) (lb cb : Nat) (a : Option Addr) (c : Nat) (w : World) (hlb : lb ≤ 9223372036854775807) (hnm : nm.size ≤ 9223372036854775807) :
    Calls Try.prog 5 #[.slice ab lb cb, .agg #[.int .i64 id, .string nm, .int .i64 kd, .slice a 0 c, .int .i64 el, .int .i64 ky, .int .i64 ln]] w fun e w' => IsBool e ∧ Below w.heap.size w w' := by
  have hB : Below w.heap.size w (w.alloc (.cells #[.int .i64 id, .string nm, .int .i64 kd, .slice a 0 c, .int .i64 el, .int .i64 ky, .int .i64 ln] 25)) := (Below.refl _ _).alloc (Nat.le_refl _) _
  by_cases h1 : 1048576 < lb
  · go_enter Try.func5, Try.ntmps5
    go_wp2
    go_ret
    exact ⟨IsBool.mk _, hB⟩
  by_cases h2 : 1048576 < nm.size
  · go_enter Try.func5, Try.ntmps5
    go_wp2
    go_ret
    exact ⟨IsBool.mk _, hB⟩
  by_cases h3 : 1048576 < (lb : Int) + nm.size
  · go_enter Try.func5, Try.ntmps5
    go_wp2
    go_ret
    exact ⟨IsBool.mk _, hB⟩
  go_enter Try.func5, Try.ntmps5
  go_wp2_with fail
  refine wp_loop_rounds 1 ?_
  rw [rounds_succ]
  go_wp2
  go_ret
  exact ⟨IsBool.mk _, hB⟩

set_option maxHeartbeats 3200000 in
set_option maxRecDepth 100000 in
theorem bytes_some (id kd el ky ln : Int) (nm : ByteArray) (ab : Option Addr) (lb cb : Nat) (b off c n : Nat) (fs : List (ByteArray × Int)) (w : World) (hlb : lb ≤ 9223372036854775807) (hnm : nm.size ≤ 9223372036854775807) (hn : fs.length = n) (hn1 : n ≤ 9223372036854775807) (hbl : b < w.heap.size)
    (hin : ∀ k (h : k < fs.length), w.cell? ⟨b, off + k * 2, none⟩ = some (.string (fs[k]).1) ∧ w.cell? ⟨b, off + k * 2 + 1, none⟩ = some (.int .i64 (fs[k]).2)) (hsz : ∀ f ∈ fs, f.1.size ≤ 9223372036854775807) :
    Calls Try.prog 5 #[.slice ab lb cb, .agg #[.int .i64 id, .string nm, .int .i64 kd, .slice (some ⟨b, off, none⟩) n c, .int .i64 el, .int .i64 ky, .int .i64 ln]] w fun e w' => IsBool e ∧ Below w.heap.size w w' := by
  have HN : Hid (fs.length = n) := hn
  have HS : Hid (∀ f ∈ fs, f.1.size ≤ 9223372036854775807) := hsz
  have HI : Hid (∀ k (h : k < fs.length) o1, (w.alloc o1).cell? ⟨b, off + k * 2, none⟩ = some (.string (fs[k]).1) ∧ (w.alloc o1).cell? ⟨b, off + k * 2 + 1, none⟩ = some (.int .i64 (fs[k]).2)) := by
    intro k h o1
    have hb : ∀ o, (w.alloc o1).cell? ⟨b, o, none⟩ = w.cell? ⟨b, o, none⟩ := fun o => World.cell?_of_block (Below.heap_alloc _ _ _ hbl)
    rw [hb, hb]; exact hin k h
  have hB : Below w.heap.size w (w.alloc (.cells #[.int .i64 id, .string nm, .int .i64 kd, .slice (some ⟨b, off, none⟩) n c, .int .i64 el, .int .i64 ky, .int .i64 ln] 25)) := (Below.refl _ _).alloc (Nat.le_refl _) _
  clear hn hin hsz hbl
  by_cases h1 : 1048576 < lb
  · go_enter Try.func5, Try.ntmps5
    go_wp2
    go_ret
    exact ⟨IsBool.mk _, hB⟩
  by_cases h2 : 1048576 < nm.size
  · go_enter Try.func5, Try.ntmps5
    go_wp2
    go_ret
    exact ⟨IsBool.mk _, hB⟩
  by_cases h3 : 1048576 < (lb : Int) + nm.size
  · go_enter Try.func5, Try.ntmps5
    go_wp2
    go_ret
    exact ⟨IsBool.mk _, hB⟩
  by_cases h4 : 1048576 < n
  · go_enter Try.func5, Try.ntmps5
    go_wp2
    go_ret
    exact ⟨IsBool.mk _, hB⟩
  by_cases h5 : 1048576 < (lb : Int) + nm.size + n
  · go_enter Try.func5, Try.ntmps5
    go_wp2
    go_ret
    exact ⟨IsBool.mk _, hB⟩
  go_enter Try.func5, Try.ntmps5
  go_wp2_with fail
  go_loop [5, 6] (fun tt i => ∃ (k : Nat) (z : Int), k ≤ n ∧ i = .int .i64 k ∧ tt = .int .i64 z ∧ 0 ≤ z ∧ z ≤ 1048576) (fun _ i => n - (intOf i).toNat)
  case atStart => exact ⟨0, _, by omega, rfl, rfl, by omega, by omega⟩
  case round =>
    obtain ⟨k, z, hk, rfl, rfl, z0, z1⟩ := hrel
    by_cases hlt : k < n
    · have hkl : k < fs.length := by rw [HN.out]; exact hlt
      obtain ⟨a1, a2⟩ := HI.out k hkl (.cells #[.int .i64 id, .string nm, .int .i64 kd, .slice (some ⟨b, off, none⟩) n c, .int .i64 el, .int .i64 ky, .int .i64 ln] 25)
      have hz := HS.out (fs[k]) (List.getElem_mem _)
      generalize (fs[k]).1 = fnm at *
      by_cases h6 : 1048576 < fnm.size
      · go_wp2
        go_ret
        exact ⟨IsBool.mk _, hB⟩
      by_cases h7 : 1048576 < z + fnm.size
      · go_wp2
        go_ret
        exact ⟨IsBool.mk _, hB⟩
      go_wp2
      go_round
      case rel => exact ⟨k + 1, _, by omega, by go_num, rfl, by omega, by omega⟩
      case measure => simp [intOf]; omega
    · go_wp2
      go_ret
      exact ⟨IsBool.mk _, hB⟩
end Go.Proofs.Qxb6625815a
