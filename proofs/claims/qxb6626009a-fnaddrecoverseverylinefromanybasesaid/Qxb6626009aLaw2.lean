import Derived.Test.Qxb6626009aLaw1
import Derived.Test.Qxb6626009aPlain2
namespace Go.Proofs.Qxb6626009a
open Go.RowKit

theorem LN.below {w w' : World} {B : Nat} {fv lv : Value} {F G : List Int} (h : LN w B fv lv F G) (hb : Below w.heap.size w w') : LN w' B fv lv F G := by
  have hg : w.grownBy w' none := ⟨hb.os, hb.tape, hb.output, hb.size, fun k hk _ => hb.block k hk⟩
  exact ⟨(hb.block B h.lt).trans h.blk, h.of.kept hg (by cases fv.ownBlock <;> simp), h.ol.kept hg (by cases lv.ownBlock <;> simp), h.ne⟩

theorem LN.cF {w : World} {B n g c : Nat} {lv : Value} {F G : List Int} (h : LN w B (.slice (some ⟨g, 0, none⟩) n c) lv F G) (hF : F.length = n) : ∀ j, j < n → w.cell? ⟨g, j, none⟩ = some (.int .i64 (F.getD j 0)) := by
  intro j hj
  have e1 := h.of.cells (g := g) rfl j (.int .i64 (F.getD j 0)) (by simp [hF, hj])
  rwa [add0] at e1
theorem LN.cG {w : World} {B n g c : Nat} {fv : Value} {F G : List Int} (h : LN w B fv (.slice (some ⟨g, 0, none⟩) n c) F G) (hG : G.length = n) : ∀ j, j < n → w.cell? ⟨g, j, none⟩ = some (.int .i64 (G.getD j 0)) := by
  intro j hj
  have e1 := h.ol.cells (g := g) rfl j (.int .i64 (G.getD j 0)) (by simp [hG, hj])
  rwa [add0] at e1

theorem bytes10_yes (a : Option Addr) (len cap : Nat) (b : Int) (w : World) (h : len ≤ 1048576) : Calls Try.prog 10 #[.slice a len cap, .int .i64 b] w fun e w' => e = .returned (.bool true) ∧ w' = w := by
  go_enter Try.func10, Try.ntmps10
  go_wp2
  go_ret
  exact ⟨rfl, rfl⟩
theorem bytes10_no (a : Option Addr) (len cap : Nat) (b : Int) (w : World) (h : 1048576 < len) : Calls Try.prog 10 #[.slice a len cap, .int .i64 b] w fun e w' => e = .returned (.bool false) ∧ w' = w := by
  go_enter Try.func10, Try.ntmps10
  go_wp2
  go_ret
  exact ⟨rfl, rfl⟩

set_option maxHeartbeats 1000000 in
set_option maxRecDepth 100000 in
theorem walk2 (bk off len cap : Nat) (zs : List Int) (b : Int) (w : World) (hl : len ≤ 131072) (h0 : 0 < len) (hlc : len ≤ zs.length)
    (hc : ∀ i, i < zs.length → w.cell? ⟨bk, off + i, none⟩ = some (.int .i64 (zs.getD i 0))) (hw : ∀ i, -9223372036854775808 ≤ zs.getD i 0 ∧ zs.getD i 0 ≤ 9223372036854775807) (hbk : bk < w.heap.size) :
    Calls Try.prog 4 #[.slice (some ⟨bk, off, none⟩) len cap, .int .i64 b] w fun e w' => e = .returned (.bool true) ∧ Below w.heap.size w w' := by
  go_enter Try.func4, Try.ntmps4
  go_wp2_with fail
  refine (bytes10_yes _ _ _ _ _ (by omega)).mono ?_
  rintro e w' ⟨rfl, rfl⟩
  go_wp2_with fail
  refine (new_any _).mono ?_
  rintro e w1 ⟨rfl, rfl⟩
  go_wp2_with fail
  go_loopw [6] (fun i wr => ∃ k : Nat, k ≤ len ∧ i = .int .i64 k ∧ (∃ fv lv, LN wr w'.heap.size fv lv (firstsOf 0 zs k) (linesOf zs k) ∧ (k = 0 → fv = .slice none 0 0 ∧ lv = .slice none 0 0)) ∧ Below w'.heap.size w' wr) (fun i _ => len - (intOf i).toNat)
  case atStart => exact ⟨0, by omega, rfl, ⟨_, _, LN.start _, fun _ => ⟨rfl, rfl⟩⟩, (Below.refl _ _).alloc (Nat.le_refl _) _⟩
  case round =>
    obtain ⟨k, hk, rfl, ⟨fv, lv, hln, hnil⟩, hbel⟩ := hrel
    by_cases hlt : k < len
    · have hcx : wr.cell? ⟨bk, off + k, none⟩ = some (.int .i64 (zs.getD k 0)) := (hbel.cell (by exact hbk)).trans (hc k (by omega))
      generalize hX : zs.getD k 0 = x at hcx
      have HX : Hid (zs.getD k 0 = x) := hX
      clear hX
      go_wp2_with fail
      refine (add_step 0 zs k w'.heap.size fv lv _ hln hnil (by omega) (hw k) _ _ ?_ HX.out.symm).mono ?_
      · rw [wrap64]; omega
      rintro e w2 ⟨rfl, fv', lv', hln', hbel'⟩
      go_wp2
      go_roundw
      case rel => exact ⟨k + 1, by omega, by go_num, ⟨fv', lv', hln', fun h => by omega⟩, hbel.trans hbel'⟩
      case measure => simp [intOf]; omega
    · have ek : k = len := by omega
      subst ek
      clear hnil hlt hk
      obtain ⟨wa, rfl⟩ : ∃ wa : World, wa = wr := ⟨_, rfl⟩
      have hsz := hbel.size
      go_wp2_with fail
      refine (new_any _).mono ?_
      rintro e w1 ⟨rfl, rfl⟩
      go_wp2_with fail
      go_loopw [8] (fun i wr => ∃ m : Nat, m ≤ k ∧ i = .int .i64 m ∧ (∃ fv lv, LN wr wa.heap.size fv lv (firstsOf b zs m) (linesOf zs m) ∧ (m = 0 → fv = .slice none 0 0 ∧ lv = .slice none 0 0)) ∧ Below wa.heap.size wa wr) (fun i _ => k - (intOf i).toNat)
      case atStart => exact ⟨0, by omega, rfl, ⟨_, _, LN.start _, fun _ => ⟨rfl, rfl⟩⟩, (Below.refl _ _).alloc (Nat.le_refl _) _⟩
      case round =>
        obtain ⟨m, hm, rfl, ⟨fw, lw, hln2, hnil⟩, hbel2⟩ := hrel
        by_cases hlt : m < k
        · have hcx : wr.cell? ⟨bk, off + m, none⟩ = some (.int .i64 (zs.getD m 0)) := (hbel2.cell (by show bk < _; omega)).trans ((hbel.cell (by exact hbk)).trans (hc m (by omega)))
          generalize hX : zs.getD m 0 = x at hcx
          have HX : Hid (zs.getD m 0 = x) := hX
          clear hX
          go_wp2_with fail
          refine (add_step b zs m wa.heap.size fw lw _ hln2 hnil (by omega) (hw m) _ _ rfl HX.out.symm).mono ?_
          rintro e w2 ⟨rfl, fv', lv', hln', hbel'⟩
          go_wp2
          go_roundw
          case rel => exact ⟨m + 1, by omega, by go_num, ⟨fv', lv', hln', fun h => by omega⟩, hbel2.trans hbel'⟩
          case measure => simp [intOf]; omega
        · have ek : m = k := by omega
          subst ek
          have hlnA := hln.below hbel2
          have hbelT := hbel.trans (hbel2.mono hsz)
          have hp : 0 < (starts zs m).length := by
            obtain ⟨p, rfl⟩ : ∃ p, m = p + 1 := ⟨m - 1, by omega⟩
            exact starts_pos zs p
          have hnm := starts_len zs m
          obtain ⟨n, hn⟩ : ∃ n, (starts zs m).length = n := ⟨_, rfl⟩
          obtain ⟨gaf, caf, ea1, _, _⟩ := hlnA.of.form (by rw [firsts_length]; omega)
          obtain ⟨gal, cal, ea2, _, _⟩ := hlnA.ol.form (by rw [lines_length]; omega)
          obtain ⟨gcf, ccf, ec1, _, _⟩ := hln2.of.form (by rw [firsts_length]; omega)
          obtain ⟨gcl, ccl, ec2, _, _⟩ := hln2.ol.form (by rw [lines_length]; omega)
          rw [firsts_length, hn] at ea1 ec1
          rw [lines_length, hn] at ea2 ec2
          subst ea1
          subst ea2
          subst ec1
          subst ec2
          have HAF : Hid (∀ j, j < n → wr.cell? ⟨gaf, j, none⟩ = some (.int .i64 (wrap64 (0 + (sAt zs m j : Nat))))) := fun j hj => by
            rw [hlnA.cF (by rw [firsts_length, hn]) j hj, firsts_get _ _ _ _ (by omega)]
          have HAL : Hid (∀ j, j < n → wr.cell? ⟨gal, j, none⟩ = some (.int .i64 (zs.getD (sAt zs m j) 0))) := fun j hj => by
            rw [hlnA.cG (by rw [lines_length, hn]) j hj, lines_get _ _ _ (by omega)]
          have HCF : Hid (∀ j, j < n → wr.cell? ⟨gcf, j, none⟩ = some (.int .i64 (wrap64 (b + (sAt zs m j : Nat))))) := fun j hj => by
            rw [hln2.cF (by rw [firsts_length, hn]) j hj, firsts_get _ _ _ _ (by omega)]
          have HCL : Hid (∀ j, j < n → wr.cell? ⟨gcl, j, none⟩ = some (.int .i64 (zs.getD (sAt zs m j) 0))) := fun j hj => by
            rw [hln2.cG (by rw [lines_length, hn]) j hj, lines_get _ _ _ (by omega)]
          have HL : Hid (∀ j, j < m → wr.cell? ⟨bk, off + j, none⟩ = some (.int .i64 (zs.getD j 0))) := fun j hj =>
            (hbelT.cell (by exact hbk)).trans (hc j (by omega))
          have HN : Hid ((starts zs m).length = n) := hn
          have HW : Hid (∀ i, -9223372036854775808 ≤ zs.getD i 0 ∧ zs.getD i 0 ≤ 9223372036854775807) := hw
          rw [hn] at hp hnm
          clear hn hnil hlt hm hc hw hln hlc hbk hsz
          go_wp2_with fail
          refine (firsts_any _ _ _ _ _ _ hlnA).mono ?_
          rintro e w2 ⟨rfl, rfl⟩
          go_wp2_with fail
          refine (lines_any _ _ _ _ _ _ hlnA).mono ?_
          rintro e w3 ⟨rfl, rfl⟩
          go_wp2_with fail
          refine (firsts_any _ _ _ _ _ _ hln2).mono ?_
          rintro e w4 ⟨rfl, rfl⟩
          go_wp2_with fail
          refine (lines_any _ _ _ _ _ _ hln2).mono ?_
          rintro e wb ⟨rfl, rfl⟩
          clear hlnA hln2 hbel hbel2
          go_wp2_with fail
          go_loopw [13] (fun t wr => ∃ j : Nat, j ≤ n ∧ t = .int .i64 j ∧ ∃ q, wr = wb.drewN q) (fun t _ => n - (intOf t).toNat)
          case atStart => exact ⟨0, by omega, rfl, 0, rfl⟩
          case round =>
            obtain ⟨j, hj, rfl, q, rfl⟩ := hrel
            by_cases hjn : j < n
            · have h1 := HAF.out j hjn
              have h2 := HAL.out j hjn
              have h3 := HCF.out j hjn
              have h4 := HCL.out j hjn
              have h5 : (wrap64 (b + (sAt zs m j : Nat)) != wrap64 (wrap64 (0 + (sAt zs m j : Nat)) + b)) = false := by rw [forth]; simp
              generalize wrap64 (b + (sAt zs m j : Nat)) = c at *
              generalize wrap64 (0 + ((sAt zs m j : Nat) : Int)) = a at *
              generalize zs.getD (sAt zs m j) 0 = x at *
              go_wp2_with fail
              go_quiet (fail)
              go_wp2
              go_roundw
              case rel => exact ⟨j + 1, by omega, by go_num, _, rfl⟩
              case measure => simp [intOf]; omega
            · have ek : n = j := by omega
              subst ek
              clear hjn hj HAF HAL
              go_wp2_with fail
              go_loopw [14, 15] (fun t i wr => ∃ k : Nat, k ≤ m ∧ i = .int .i64 k ∧ t = .int .i64 (((starts zs k).length - 1 : Nat) : Int) ∧ ∃ q, wr = wb.drewN q) (fun _ i _ => m - (intOf i).toNat)
              case atStart => exact ⟨0, by omega, rfl, rfl, _, rfl⟩
              case round =>
                obtain ⟨k, hk, rfl, rfl, q, rfl⟩ := hrel
                by_cases hkm : k < m
                · obtain ⟨e1, e2, e3⟩ := sAt_last zs k m hkm (HW.out k)
                  have hJ := J_mono zs k
                  have hst := sAt_stop zs k m hkm
                  have hmo := fun jj => sAt_more zs k m jj hkm
                  have hsl := fun jj => sAt_lt zs m jj
                  rw [HN.out] at e1 hst
                  simp only [HN.out] at hmo hsl
                  obtain ⟨J0, hJ0⟩ : ∃ J, (starts zs k).length - 1 = J := ⟨_, rfl⟩
                  obtain ⟨J1, hJ1⟩ : ∃ J, (starts zs (k + 1)).length - 1 = J := ⟨_, rfl⟩
                  simp only [hJ0, hJ1] at e1 e2 e3 hJ hst hmo ⊢
                  have HJ1 : Hid ((starts zs (k + 1)).length - 1 = J1) := hJ1
                  have HST : Hid (J1 + 1 < n → k < sAt zs m (J1 + 1)) := hst
                  have HMO : Hid (∀ jj, J0 ≤ jj → jj < J1 → jj + 1 < n ∧ sAt zs m (jj + 1) = k ∧ jj + 1 ≤ J1) := hmo
                  have HSL : Hid (∀ jj, jj < n → sAt zs m jj < m) := hsl
                  have HE3 : Hid (wrap64 (zs.getD (sAt zs m J1) 0 + ((k : Int) - (sAt zs m J1 : Nat))) = zs.getD k 0) := e3
                  clear hJ0 hJ1 hst hmo hsl e3
                  go_wp2_with fail
                  go_loop [14] (fun t => ∃ jj : Nat, J0 ≤ jj ∧ jj ≤ J1 ∧ t = .int .i64 jj) (fun t => n - (intOf t).toNat)
                  case atStart => exact ⟨J0, by omega, by omega, rfl⟩
                  case round =>
                    obtain ⟨jj, hj0, hj1, rfl⟩ := hrel
                    by_cases hlt : jj < J1
                    · obtain ⟨f1, f2, f3⟩ := HMO.out jj hj0 hlt
                      have h3 := HCF.out (jj + 1) f1
                      have h5 : (wrap64 (wrap64 (b + (sAt zs m (jj + 1) : Nat)) - b) == (k : Int)) = true := by rw [f2, back b k (by omega)]; simp
                      clear f2
                      generalize wrap64 (b + (sAt zs m (jj + 1) : Nat)) = c at *
                      go_wp2
                      go_round
                      case rel => exact ⟨jj + 1, by omega, by omega, by go_num⟩
                      case measure => simp [intOf]; omega
                    · have ej : J1 = jj := by omega
                      subst ej
                      clear hlt hj0 hj1
                      have h3 := HCF.out J1 e1
                      have h4 := HCL.out J1 e1
                      have h6 := HL.out k hkm
                      have hcb : wrap64 (wrap64 (b + (sAt zs m J1 : Nat)) - b) = (sAt zs m J1 : Nat) := back b _ (by omega)
                      have h7 : (wrap64 (zs.getD (sAt zs m J1) 0 + ((k : Int) - (sAt zs m J1 : Nat))) != zs.getD k 0) = false := by rw [HE3.out]; simp
                      clear HE3
                      by_cases hjn : J1 + 1 < n
                      · have h8 := HCF.out (J1 + 1) hjn
                        have h9 : (wrap64 (wrap64 (b + (sAt zs m (J1 + 1) : Nat)) - b) == (k : Int)) = false := by
                          have := HST.out hjn
                          have := HSL.out _ hjn
                          rw [back b _ (by omega)]
                          exact beq_eq_false_iff_ne.2 (by omega)
                        generalize wrap64 (b + (sAt zs m (J1 + 1) : Nat)) = d at *
                        generalize wrap64 (b + (sAt zs m J1 : Nat)) = c at *
                        generalize zs.getD (sAt zs m J1) 0 = x at *
                        generalize sAt zs m J1 = f at *
                        generalize zs.getD k 0 = y at *
                        go_wp2_with fail
                        go_quiet (fail)
                        go_wp2
                        go_roundw
                        case rel => exact ⟨k + 1, by omega, by go_num, by rw [HJ1.out], _, rfl⟩
                        case measure => simp [intOf]; omega
                      · generalize wrap64 (b + (sAt zs m J1 : Nat)) = c at *
                        generalize zs.getD (sAt zs m J1) 0 = x at *
                        generalize sAt zs m J1 = f at *
                        generalize zs.getD k 0 = y at *
                        go_wp2_with fail
                        go_quiet (fail)
                        go_wp2
                        go_roundw
                        case rel => exact ⟨k + 1, by omega, by go_num, by rw [HJ1.out], _, rfl⟩
                        case measure => simp [intOf]; omega
                · have ek : m = k := by omega
                  subst ek
                  rw [HN.out]
                  go_wp2
                  go_ret
                  exact ⟨rfl, bdrewN hbelT _⟩
end Go.Proofs.Qxb6626009a
