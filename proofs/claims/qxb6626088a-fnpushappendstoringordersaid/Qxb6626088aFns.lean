import Derived.Test.Qxb6626088aRing
namespace Go.Proofs.Qxb6626088a
open Go.RowKit

theorem bytes_yes (a : Option Addr) (len cap : Nat) (w : World) (h : len ≤ 1048576) : Calls Try.prog 5 #[.slice a len cap] w fun e w' => e = .returned (.bool true) ∧ w' = w := by
  go_enter Try.func5, Try.ntmps5
  go_wp2
  go_ret
  exact ⟨rfl, rfl⟩
theorem bytes_no (a : Option Addr) (len cap : Nat) (w : World) (h : 1048576 < len) : Calls Try.prog 5 #[.slice a len cap] w fun e w' => e = .returned (.bool false) ∧ w' = w := by
  go_enter Try.func5, Try.ntmps5
  go_wp2
  go_ret
  exact ⟨rfl, rfl⟩

theorem newLine_any (w : World) : Calls Try.prog 6 #[] w fun e w' => e = .returned (.pointer (some ⟨w.heap.size, 0, none⟩)) ∧ w' = w.alloc (.cells #[.slice none 0 0] 43) := by
  go_enter Try.func6, Try.ntmps6
  go_wp2
  go_ret
  exact ⟨rfl, rfl⟩

theorem zpush_any (B L eb n : Nat) (lv : Value) (ps : List Place) (bs : List Nat) (s : Int) (hh : Bool) (w : World) (hL : Line w B L lv ps) (hR : Ring ps bs) (hn : bs.length = n) (hn1 : n ≤ 1048576) (hE : Ent w eb s hh) (hB : B ≤ w.heap.size) (hnil : n = 0 → lv = .slice none 0 0) :
    Calls Try.prog 8 #[.pointer (some ⟨L, 0, none⟩), .pointer (some ⟨eb, 0, none⟩)] w fun e w' => e = .returned (.tuple #[]) ∧ ∃ g' cap' ps', Line w' B L (.slice (some ⟨g', 0, none⟩) (n + 1) cap') ps' ∧ Ring ps' (bs ++ [eb]) ∧ Ent w' eb n false ∧ Fr w w' (fun k => some k = lv.ownBlock ∨ k = L ∨ k = eb) := by
  go_enter Try.func8, Try.ntmps8
  go_wp2_with fail
  refine (push_any B L eb n lv ps bs s hh _ hL hR hn hn1 hE hB hnil).mono ?_
  rintro e w' ⟨rfl, g', cap', ps', h⟩
  go_wp2_with fail
  go_end0
  exact ⟨rfl, g', cap', ps', h⟩

theorem len_any (B L : Nat) (a : Option Addr) (n cap : Nat) (ps : List Place) (w : World) (hL : Line w B L (.slice a n cap) ps) : Calls Try.prog 9 #[.pointer (some ⟨L, 0, none⟩)] w fun e w' => e = .returned (.int .i64 n) ∧ w' = w := by
  have cL := hL.cell
  go_enter Try.func9, Try.ntmps9
  go_wp2
  go_ret
  exact ⟨rfl, rfl⟩

theorem last17 (B L g n cap m : Nat) (ps : List Place) (bs : List Nat) (w : World) (hL : Line w B L (.slice (some ⟨g, 0, none⟩) n cap) ps) (hR : Ring ps bs) (hn : bs.length = n) (hm : m + 1 = n) (b : Nat) (hb : bs[m]? = some b) :
    Calls Try.prog 17 #[.slice (some ⟨g, 0, none⟩) n cap] w fun e w' => e = .returned (.pointer (some ⟨b, 0, none⟩)) ∧ w' = w := by
  have hl := hR.1
  obtain ⟨hmb, rfl⟩ := List.getElem?_eq_some_iff.1 hb
  have c0 := (hL.at 0 (by omega)).2.1
  rw [hR.2 0 (by omega) (by omega)] at c0
  have c1 := (hL.at m (by omega)).1
  rw [hR.2 m (by omega) hmb] at c1
  have hp : prevOf bs.length 0 = m := by simp [prevOf]; omega
  rw [hp] at c0
  simp only [Nat.zero_mul, Nat.zero_add] at c0
  have b1 : (m : Int) < n := by omega
  have b2 : 0 < n := by omega
  have HB : Hid (ptr (bs[m]) = .pointer (some ⟨bs[m], 0, none⟩)) := rfl
  rw [HB.out] at c1
  clear hb hp hn
  generalize bs[m] = b at *
  clear hmb hR hl hm
  go_enter Try.func17, Try.ntmps17
  go_wp2
  go_ret
  exact ⟨rfl, rfl⟩

theorem last_any (B L g n cap m : Nat) (ps : List Place) (bs : List Nat) (w : World) (hL : Line w B L (.slice (some ⟨g, 0, none⟩) n cap) ps) (hR : Ring ps bs) (hn : bs.length = n) (hm : m + 1 = n) (b : Nat) (hb : bs[m]? = some b) :
    Calls Try.prog 10 #[.pointer (some ⟨L, 0, none⟩)] w fun e w' => e = .returned (.pointer (some ⟨b, 0, none⟩)) ∧ w' = w := by
  have cL := hL.cell
  go_enter Try.func10, Try.ntmps10
  go_wp2_with fail
  refine (last17 B L g n cap m ps bs _ hL hR hn hm b hb).mono ?_
  rintro e w' ⟨rfl, rfl⟩
  go_wp2_with fail
  go_ret
  exact ⟨rfl, rfl⟩

theorem slot_any (eb : Nat) (s : Int) (h : Bool) (w : World) (hE : Ent w eb s h) : Calls Try.prog 11 #[.pointer (some ⟨eb, 0, none⟩)] w fun e w' => e = .returned (.tuple #[.int .i64 s, .bool h]) ∧ Fr w w' (fun _ => False) := by
  obtain ⟨c1, c2, _, _⟩ := hE.cells
  go_enter Try.func11, Try.ntmps11
  go_wp2_with fail
  go_quiet (fail)
  go_wp2_with fail
  exact bodyPost_ret (v := .tuple #[.int .i64 s, .bool h]) (by simp [results, Try.results11, go_sem]) rfl ⟨rfl, rfl, rfl, rfl, Nat.le_refl _, fun _ _ _ => rfl⟩

theorem place_any (B L g n cap k : Nat) (ps : List Place) (bs : List Nat) (w : World) (hL : Line w B L (.slice (some ⟨g, 0, none⟩) n cap) ps) (hR : Ring ps bs) (hn : bs.length = n) (hk : k < n) (b : Nat) (hb : bs[k]? = some b) :
    Calls Try.prog 12 #[.pointer (some ⟨L, 0, none⟩), .int .i64 k] w fun e w' => e = .returned (.tuple #[.pointer (some ⟨b, 0, none⟩), .int .i64 (prevOf n k : Nat), .int .i64 (nextOf n k : Nat)]) ∧ Fr w w' (fun _ => False) := by
  have cL := hL.cell
  have hl := hR.1
  obtain ⟨hmb, rfl⟩ := List.getElem?_eq_some_iff.1 hb
  obtain ⟨c0, c1, c2⟩ := hL.at k (by omega)
  rw [hR.2 k (by omega) hmb] at c0 c1 c2
  rw [hn] at c1 c2
  have HB : Hid (ptr (bs[k]) = .pointer (some ⟨bs[k], 0, none⟩)) := rfl
  rw [HB.out] at c0
  have b1 : (k : Int) < n := by omega
  clear hb hn
  generalize bs[k] = b at *
  clear hmb hR hl
  generalize prevOf n k = p at *
  generalize nextOf n k = q at *
  go_enter Try.func12, Try.ntmps12
  go_wp2_with fail
  go_quiet (fail)
  go_wp2_with fail
  go_ret3
  exact ⟨rfl, (Fr.alloc _ _).trans ⟨rfl, rfl, rfl, Nat.le_refl _, fun _ _ _ => rfl⟩ (fun _ _ h => h)⟩
end Go.Proofs.Qxb6626088a
