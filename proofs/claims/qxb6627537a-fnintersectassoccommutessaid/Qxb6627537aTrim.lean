import Derived.Test.Qxb6627537aFns
namespace Go.Proofs.Qxb6627537a
open Go.RowKit

def lenOf : Value → Nat
  | .slice _ n _ => n
  | _ => 0

/-- What 'trim' gives back: the words without the zeros at the end. -/
def TrimPost (w : World) (zs : List Nat) (e : Ending) (w' : World) : Prop := ∃ v ts, e = .returned v ∧ Words w v ts ∧ Canon ts ∧ (∀ i, ts.getD i 0 = zs.getD i 0) ∧ ts.length ≤ zs.length ∧ w' = w

theorem take_getD (zs : List Nat) (m : Nat) (hz : ∀ i, m ≤ i → i < zs.length → zs.getD i 0 = 0) (i : Nat) : (zs.take m).getD i 0 = zs.getD i 0 := by
  by_cases h : i < m
  · rw [List.getD_eq_getElem?_getD, List.getElem?_take, if_pos h, ← List.getD_eq_getElem?_getD]
  · rw [List.getD_eq_getElem?_getD, List.getElem?_take, if_neg h]
    by_cases h2 : i < zs.length
    · rw [hz i (by omega) h2]; rfl
    · rw [List.getD_eq_getElem?_getD, List.getElem?_eq_none (by omega)]

set_option maxHeartbeats 800000 in
set_option maxRecDepth 100000 in
theorem trim_any (B n : Nat) (zs : List Nat) (w : World) (hn : zs.length = n) (hn1 : n ≤ 1048576) (hr : ∀ x ∈ zs, x < 18446744073709551616) (hb : w.rowIs B 24 n (fun i => .int .u64 (zs.getD i 0 : Nat))) :
    Calls Try.prog 15 #[.slice (some ⟨B, 0, none⟩) n n] w (TrimPost w zs) := by
  have HN : Hid (zs.length = n) := hn
  have HR : Hid (∀ x ∈ zs, x < 18446744073709551616) := hr
  clear hn hr
  go_enter Try.func15, Try.ntmps15
  go_wp2_with fail
  go_loopw [0] (fun v wr => ∃ m : Nat, m ≤ n ∧ v = .slice (some ⟨B, 0, none⟩) m n ∧ (∀ i, m ≤ i → i < zs.length → zs.getD i 0 = 0) ∧ wr = w) (fun v _ => lenOf v)
  case atStart => exact ⟨n, Nat.le_refl _, rfl, fun i h1 h2 => by rw [HN.out] at h2; omega, rfl⟩
  case round =>
    obtain ⟨m, hm, rfl, hz, rfl⟩ := hrel
    have HZ : Hid (∀ i, m ≤ i → i < zs.length → zs.getD i 0 = 0) := hz
    clear hz
    by_cases h0 : m = 0
    · subst h0
      go_wp2_with fail
      go_ret
      refine ⟨_, [], rfl, ⟨⟨none, 0, rfl, fun h => by simp at h⟩, fun x hx => by simp at hx⟩, fun h => by simp at h, fun i => ?_, by simp, rfl⟩
      have := take_getD zs 0 HZ.out i
      simpa using this
    · have c0 := hb.cell (i := m - 1) (by omega)
      have b1 : 0 < m := by omega
      by_cases hx : zs.getD (m - 1) 0 = 0
      · have HX : Hid (zs.getD (m - 1) 0 = 0) := hx
        rw [hx] at c0
        clear hx
        go_wp2_with fail
        go_roundw
        case rel =>
          refine ⟨m - 1, by omega, rfl, fun i h1 h2 => ?_, by trivial⟩
          · by_cases e : i = m - 1
            · rw [e]; exact HX.out
            · exact HZ.out i (by omega) h2
        case measure => simp [lenOf]; omega
      · have HX : Hid (zs.getD (m - 1) 0 ≠ 0) := hx
        generalize zs.getD (m - 1) 0 = x at c0 hx
        have b3 : ((x : Int) == 0) = false := by simp; omega
        have b4 : ((m : Int) == 0) = false := by simp; omega
        go_wp2_with fail
        go_ret
        have hlen : (zs.take m).length = m := by rw [List.length_take, HN.out]; omega
        have hg := take_getD zs m HZ.out
        refine ⟨_, zs.take m, rfl, ⟨⟨some ⟨B, 0, none⟩, n, by rw [hlen]; rfl, fun _ => ⟨B, 0, rfl, hb.lt, fun i hi => ?_⟩⟩, fun x hx => HR.out x (List.mem_of_mem_take hx)⟩, ?_, hg, by rw [hlen, HN.out]; exact hm, rfl⟩
        · rw [hg, Nat.zero_add]; exact hb.cell (by omega)
        · intro _
          rw [hlen, hg]; exact HX.out
end Go.Proofs.Qxb6627537a
