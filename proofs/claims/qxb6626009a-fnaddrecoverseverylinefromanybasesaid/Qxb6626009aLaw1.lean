import Derived.Test.Qxb6626009aAdd
import Derived.Test.Qxb6626009aPlain
namespace Go.Proofs.Qxb6626009a
open Go.RowKit

/-- One more record noted. -/
theorem add_key (b : Int) (zs : List Int) (k B : Nat) (fv lv : Value) (w : World) (h : LN w B fv lv (firstsOf b zs k) (linesOf zs k)) (h0 : k = 0 → fv = .slice none 0 0 ∧ lv = .slice none 0 0) (hk : k ≤ 131072)
    (hz : -9223372036854775808 ≤ zs.getD k 0 ∧ zs.getD k 0 ≤ 9223372036854775807) (i x : Int) (hi : i = wrap64 (b + k)) (hx : x = zs.getD k 0) :
    Calls Try.prog 11 #[.pointer (some ⟨B, 0, none⟩), .int .i64 i, .int .i64 x] w fun e w' => e = .returned (.tuple #[]) ∧ ∃ fv' lv', LN w' B fv' lv' (firstsOf b zs (k + 1)) (linesOf zs (k + 1)) ∧ Below B w w' := by
  subst hi
  subst hx
  cases k with
  | zero =>
    obtain ⟨rfl, rfl⟩ := h0 rfl
    have e1 : firstsOf b zs (0 + 1) = [wrap64 (b + (0 : Nat))] := by simp [firstsOf, starts, start]
    have e2 : linesOf zs (0 + 1) = [zs.getD 0 0] := by simp [linesOf, starts, start]
    rw [e1, e2]
    exact add_none B _ _ w h
  | succ k =>
    have hp := starts_pos zs k
    have hl := starts_len zs (k + 1)
    obtain ⟨n, hn⟩ : ∃ n, (starts zs (k + 1)).length = n + 1 := ⟨(starts zs (k + 1)).length - 1, by omega⟩
    have hF : (firstsOf b zs (k + 1)).length = n + 1 := by rw [firsts_length, hn]
    have hG : (linesOf zs (k + 1)).length = n + 1 := by rw [lines_length, hn]
    obtain ⟨gf, cf, rfl, _, _⟩ := h.of.form (by omega)
    obtain ⟨gl, cl, rfl, _, _⟩ := h.ol.form (by omega)
    rw [hF, hG] at h
    have ht := test_iff b zs k n hn hz
    cases hs : start zs (k + 1)
    · refine (add_skip B gf cf gl cl n _ _ _ _ w h hF hG (by omega) (ht.2 hs)).mono ?_
      rintro e w' ⟨rfl, h1, h2⟩
      have e1 : firstsOf b zs (k + 1 + 1) = firstsOf b zs (k + 1) := by unfold firstsOf; rw [starts_no hs]
      have e2 : linesOf zs (k + 1 + 1) = linesOf zs (k + 1) := by unfold linesOf; rw [starts_no hs]
      rw [e1, e2]
      exact ⟨rfl, _, _, h1, h2⟩
    · refine (add_more B gf cf gl cl n _ _ _ _ w h hF hG (by omega) (fun e => by rw [ht.1 e] at hs; cases hs)).mono ?_
      rintro e w' ⟨rfl, fv', lv', h1, h2⟩
      refine ⟨rfl, fv', lv', ?_, h2⟩
      unfold firstsOf linesOf at h1 ⊢
      rw [starts_yes hs]
      simpa using h1

theorem add_step (b : Int) (zs : List Int) (k B : Nat) (fv lv : Value) (w : World) (h : LN w B fv lv (firstsOf b zs k) (linesOf zs k)) (h0 : k = 0 → fv = .slice none 0 0 ∧ lv = .slice none 0 0) (hk : k ≤ 131072)
    (hz : -9223372036854775808 ≤ zs.getD k 0 ∧ zs.getD k 0 ≤ 9223372036854775807) (i x : Int) (hi : i = wrap64 (b + k)) (hx : x = zs.getD k 0) :
    Calls Try.prog 7 #[.pointer (some ⟨B, 0, none⟩), .int .i64 i, .int .i64 x] w fun e w' => e = .returned (.tuple #[]) ∧ ∃ fv' lv', LN w' B fv' lv' (firstsOf b zs (k + 1)) (linesOf zs (k + 1)) ∧ Below B w w' := by
  have key := add_key b zs k B fv lv w h h0 hk hz i x hi hx
  clear hi hx hz h0 h
  go_enter Try.func7, Try.ntmps7
  go_wp2_with fail
  refine key.mono ?_
  rintro e w' ⟨rfl, h1⟩
  clear key
  go_wp2
  go_end0
  exact ⟨rfl, h1⟩

theorem new_any (w : World) : Calls Try.prog 6 #[] w fun e w' => e = .returned (.pointer (some ⟨w.heap.size, 0, none⟩)) ∧ w' = w.alloc (.cells #[.slice none 0 0, .slice none 0 0] 30) := by
  go_enter Try.func6, Try.ntmps6
  go_wp2
  go_ret
  exact ⟨rfl, rfl⟩

theorem LN.start (w : World) : LN (w.alloc (.cells #[.slice none 0 0, .slice none 0 0] 30)) w.heap.size (.slice none 0 0) (.slice none 0 0) [] [] :=
  ⟨heap_alloc_new w _, World.ownsRow_nil _ _ _ _, World.ownsRow_nil _ _ _ _, .inl rfl⟩

theorem firsts_any (B : Nat) (fv lv : Value) (F G : List Int) (w : World) (h : LN w B fv lv F G) : Calls Try.prog 8 #[.pointer (some ⟨B, 0, none⟩)] w fun e w' => e = .returned fv ∧ w' = w := by
  have c0 := h.c0
  go_enter Try.func8, Try.ntmps8
  go_wp2
  go_ret
  exact ⟨rfl, rfl⟩
theorem lines_any (B : Nat) (fv lv : Value) (F G : List Int) (w : World) (h : LN w B fv lv F G) : Calls Try.prog 9 #[.pointer (some ⟨B, 0, none⟩)] w fun e w' => e = .returned lv ∧ w' = w := by
  have c0 := h.c1
  go_enter Try.func9, Try.ntmps9
  go_wp2
  go_ret
  exact ⟨rfl, rfl⟩
theorem bytes5_yes (a : Option Addr) (len cap : Nat) (w : World) (h : len ≤ 1048576) : Calls Try.prog 5 #[.slice a len cap] w fun e w' => e = .returned (.bool true) ∧ w' = w := by
  go_enter Try.func5, Try.ntmps5
  go_wp2
  go_ret
  exact ⟨rfl, rfl⟩
theorem bytes5_no (a : Option Addr) (len cap : Nat) (w : World) (h : 1048576 < len) : Calls Try.prog 5 #[.slice a len cap] w fun e w' => e = .returned (.bool false) ∧ w' = w := by
  go_enter Try.func5, Try.ntmps5
  go_wp2
  go_ret
  exact ⟨rfl, rfl⟩

set_option maxHeartbeats 1000000 in
set_option maxRecDepth 100000 in
theorem walk1 (bk off len cap : Nat) (zs : List Int) (w : World) (hl : len ≤ 131072) (h0 : 0 < len) (hlc : len ≤ zs.length)
    (hc : ∀ i, i < zs.length → w.cell? ⟨bk, off + i, none⟩ = some (.int .i64 (zs.getD i 0))) (hw : ∀ i, -9223372036854775808 ≤ zs.getD i 0 ∧ zs.getD i 0 ≤ 9223372036854775807) (hbk : bk < w.heap.size) :
    Calls Try.prog 3 #[.slice (some ⟨bk, off, none⟩) len cap] w fun e w' => e = .returned (.bool true) ∧ Below w.heap.size w w' := by
  go_enter Try.func3, Try.ntmps3
  go_wp2_with fail
  refine (bytes5_yes _ _ _ _ (by omega)).mono ?_
  rintro e w' ⟨rfl, rfl⟩
  go_wp2_with fail
  refine (new_any _).mono ?_
  rintro e w1 ⟨rfl, rfl⟩
  go_wp2_with fail
  go_loopw [4] (fun i wr => ∃ k : Nat, k ≤ len ∧ i = .int .i64 k ∧ (∃ fv lv, LN wr w'.heap.size fv lv (firstsOf 0 zs k) (linesOf zs k) ∧ (k = 0 → fv = .slice none 0 0 ∧ lv = .slice none 0 0)) ∧ Below w'.heap.size w' wr) (fun i _ => len - (intOf i).toNat)
  case atStart => exact ⟨0, by omega, rfl, ⟨_, _, LN.start _, fun _ => ⟨rfl, rfl⟩⟩, (Below.refl _ _).alloc (Nat.le_refl _) _⟩
  case round =>
    obtain ⟨k, hk, rfl, ⟨fv, lv, hln, hnil⟩, hbel⟩ := hrel
    by_cases hlt : k < len
    · have hcx : wr.cell? ⟨bk, off + k, none⟩ = some (.int .i64 (zs.getD k 0)) := (hbel.cell (by exact hbk)).trans (hc k (by omega))
      have hx := hw k
      have HX : Hid (∃ x, x = zs.getD k 0) := ⟨_, rfl⟩
      generalize hX : zs.getD k 0 = x at hcx
      have HX : Hid (zs.getD k 0 = x) := hX
      clear hX hx
      go_wp2_with fail
      refine (add_step 0 zs k w'.heap.size fv lv _ hln hnil (by omega) (hw k) _ _ ?_ HX.out.symm).mono ?_
      · rw [wrap64]; omega
      rintro e w2 ⟨rfl, fv', lv', hln', hbel'⟩
      go_wp2
      go_roundw
      case rel => exact ⟨k + 1, by omega, by go_num, ⟨fv', lv', hln', fun h => by omega⟩, hbel.trans hbel'⟩
      case measure => simp [intOf]; omega
    · have ek : k = len := by omega
      subst ek
      have hp : 0 < (starts zs k).length := by
        obtain ⟨p, rfl⟩ : ∃ p, k = p + 1 := ⟨k - 1, by omega⟩
        exact starts_pos zs p
      have hl2 := starts_len zs k
      obtain ⟨n, hn⟩ : ∃ n, (starts zs k).length = n := ⟨_, rfl⟩
      have hF : (firstsOf 0 zs k).length = n := by rw [firsts_length, hn]
      have hG : (linesOf zs k).length = n := by rw [lines_length, hn]
      obtain ⟨gf, cf, rfl, _, _⟩ := hln.of.form (by omega)
      obtain ⟨gl, cl, rfl, _, _⟩ := hln.ol.form (by omega)
      have HF : Hid ((firstsOf 0 zs k).length = n) := hF
      have HG : Hid ((linesOf zs k).length = n) := hG
      have HN : Hid ((starts zs k).length = n) := hn
      rw [hF, hG] at hln
      rw [hn] at hp hl2
      clear hF hG hn hnil
      go_wp2_with fail
      refine (firsts_any _ _ _ _ _ _ hln).mono ?_
      rintro e w2 ⟨rfl, rfl⟩
      go_wp2_with fail
      refine (lines_any _ _ _ _ _ _ hln).mono ?_
      rintro e w3 ⟨rfl, rfl⟩
      go_wp2_with fail
      go_loopw [7, 8] (fun kk i wr => ∃ m : Nat, m ≤ k ∧ i = .int .i64 m ∧ kk = .int .i64 (starts zs m).length ∧ ∃ q, wr = w3.drewN q) (fun _ i _ => k - (intOf i).toNat)
      case atStart => exact ⟨0, by omega, rfl, rfl, 0, rfl⟩
      case round =>
        obtain ⟨m, hm, rfl, rfl, q, rfl⟩ := hrel
        have hcF : ∀ j, j < n → w3.cell? ⟨gf, j, none⟩ = some (.int .i64 ((firstsOf 0 zs k).getD j 0)) := by
          intro j hj
          have e1 := hln.of.cells (g := gf) rfl j (.int .i64 ((firstsOf 0 zs k).getD j 0)) (by simp [HF.out, hj])
          rwa [add0] at e1
        have hcG : ∀ j, j < n → w3.cell? ⟨gl, j, none⟩ = some (.int .i64 ((linesOf zs k).getD j 0)) := by
          intro j hj
          have e1 := hln.ol.cells (g := gl) rfl j (.int .i64 ((linesOf zs k).getD j 0)) (by simp [HG.out, hj])
          rwa [add0] at e1
        have hjm := starts_len zs m
        by_cases hmp : m < k
        · have hcx : w3.cell? ⟨bk, off + m, none⟩ = some (.int .i64 (zs.getD m 0)) := (hbel.cell (by exact hbk)).trans (hc m (by omega))
          by_cases hst : start zs m = true
          · have hat := starts_at zs m k hmp hst
            have hfa := hcF _ (by rw [← HN.out]; exact hat.1)
            have hla := hcG _ (by rw [← HN.out]; exact hat.1)
            rw [firsts_at 0 zs m k hmp hst] at hfa
            rw [lines_at zs m k hmp hst] at hla
            have hjn : (starts zs m).length < n := by rw [← HN.out]; exact hat.1
            rw [show wrap64 (0 + (m : Int)) = m by unfold wrap64; omega] at hfa
            have HS : Hid (starts zs (m + 1) = starts zs m ++ [m]) := starts_yes hst
            clear hat hcF hcG
            generalize hJ : (starts zs m).length = j at *
            have HJ : Hid ((starts zs m).length = j) := hJ
            cases m with
            | zero =>
              obtain rfl : j = 0 := by omega
              simp only [Int.natCast_zero, Nat.add_zero] at hfa hcx
              clear hst hJ hjm
              generalize zs.getD 0 0 = x at *
              go_wp2_with fail
              go_quiet (fail)
              go_wp2_with fail
              go_quiet (fail)
              go_wp2
              go_roundw
              case rel => exact ⟨0 + 1, by omega, by go_num, by rw [HS.out, List.length_append, HJ.out]; go_num, _, rfl⟩
              case measure => simp [intOf]; omega
            | succ m =>
              have hcy : w3.cell? ⟨bk, off + m, none⟩ = some (.int .i64 (zs.getD m 0)) := (hbel.cell (by exact hbk)).trans (hc m (by omega))
              have hne : (zs.getD (m + 1) 0 == wrap64 (zs.getD m 0 + 1)) = false := by
                simp only [start, Nat.add_sub_cancel, Bool.or_eq_true] at hst
                rcases hst with h | h
                · simp at h
                · simpa using h
              clear hst hJ
              generalize zs.getD (m + 1) 0 = x at *
              generalize zs.getD m 0 = y at *
              go_wp2_with fail
              go_quiet (fail)
              go_wp2_with fail
              go_quiet (fail)
              go_wp2
              go_roundw
              case rel => exact ⟨m + 1 + 1, by omega, by go_num, by rw [HS.out, List.length_append, HJ.out]; go_num, _, rfl⟩
              case measure => simp [intOf]; omega
          · cases m with
            | zero => simp [start] at hst
            | succ m =>
              have HS : Hid (starts zs (m + 1 + 1) = starts zs (m + 1)) := starts_no (by simpa using hst)
              have hcy : w3.cell? ⟨bk, off + m, none⟩ = some (.int .i64 (zs.getD m 0)) := (hbel.cell (by exact hbk)).trans (hc m (by omega))
              have hne : (zs.getD (m + 1) 0 == wrap64 (zs.getD m 0 + 1)) = true := by
                simp only [start, Nat.add_sub_cancel, Bool.or_eq_true] at hst
                simpa using hst
              clear hst hcF hcG
              generalize hJ : (starts zs (m + 1)).length = j at *
              have HJ : Hid ((starts zs (m + 1)).length = j) := hJ
              clear hJ
              generalize zs.getD (m + 1) 0 = x at *
              generalize zs.getD m 0 = y at *
              go_wp2_with fail
              go_quiet (fail)
              go_wp2
              go_roundw
              case rel => exact ⟨m + 1 + 1, by omega, by go_num, by rw [HS.out, HJ.out], _, rfl⟩
              case measure => simp [intOf]; omega
        · obtain rfl : m = k := by omega
          rw [HN.out]
          clear hcF hcG
          go_wp2
          go_ret
          exact ⟨rfl, bdrewN hbel _⟩

set_option maxHeartbeats 400000 in
theorem walk0 (a : Option Addr) (cap : Nat) (w : World) :
    Calls Try.prog 3 #[.slice a 0 cap] w fun e w' => e = .returned (.bool true) ∧ Below w.heap.size w w' := by
  go_enter Try.func3, Try.ntmps3
  go_wp2_with fail
  refine (bytes5_yes _ _ _ _ (by omega)).mono ?_
  rintro e w' ⟨rfl, rfl⟩
  go_wp2_with fail
  refine (new_any _).mono ?_
  rintro e w1 ⟨rfl, rfl⟩
  go_wp2_with fail
  refine wp_loop_rounds 1 ?_
  rw [rounds_succ]
  go_wp2_with fail
  refine (firsts_any _ _ _ _ _ _ (LN.start w')).mono ?_
  rintro e w2 ⟨rfl, rfl⟩
  go_wp2_with fail
  refine (lines_any _ _ _ _ _ _ (LN.start w')).mono ?_
  rintro e w2 ⟨rfl, rfl⟩
  go_wp2_with fail
  refine wp_loop_rounds 1 ?_
  rw [rounds_succ]
  go_wp2
  go_ret
  exact ⟨rfl, (Below.refl _ _).alloc (Nat.le_refl _) _⟩

theorem walk_long (a : Option Addr) (len cap : Nat) (w : World) (h : 131072 < len) (hm : len ≤ 9223372036854775807) :
    Calls Try.prog 3 #[.slice a len cap] w fun e w' => e = .returned (.bool true) ∧ Below w.heap.size w w' := by
  by_cases h2 : len ≤ 1048576
  · go_enter Try.func3, Try.ntmps3
    go_wp2_with fail
    refine (bytes5_yes _ _ _ _ h2).mono ?_
    rintro e w' ⟨rfl, rfl⟩
    go_wp2
    go_ret
    exact ⟨rfl, Below.refl _ _⟩
  · go_enter Try.func3, Try.ntmps3
    go_wp2_with fail
    refine (bytes5_no _ _ _ _ (by omega)).mono ?_
    rintro e w' ⟨rfl, rfl⟩
    go_wp2
    go_ret
    exact ⟨rfl, Below.refl _ _⟩
end Go.Proofs.Qxb6626009a
