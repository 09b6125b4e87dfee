import Derived.Test.Qxb6627537aSame
import Derived.Lib.SliceRun
import Derived.Laws.CopyOwn
import Derived.WalkSpells
import Derived.Deep.Cut
import Derived.Deep.CutRange
namespace Go.Proofs.Qxb6627537a
open Go.RowKit

theorem splice_all (cur cs : List Value) (h : cur.length = cs.length) : splice cur 0 cs = cs := by
  simp [splice, h]

/-- The words' cells. -/
def cellsOf (xs : List Nat) : List Value := xs.map fun (x : Nat) => Value.int .u64 (x : Int)
theorem cellsOf_length (xs : List Nat) : (cellsOf xs).length = xs.length := by simp [cellsOf]
theorem cellsOf_get (xs : List Nat) (j : Nat) (v : Value) (h : (cellsOf xs)[j]? = some v) : j < xs.length ∧ v = .int .u64 (xs.getD j 0 : Nat) := by
  by_cases hj : j < xs.length
  · refine ⟨hj, ?_⟩
    simp [cellsOf, hj] at h
    simp [List.getD_eq_getElem?_getD, hj, ← h]
  · rw [List.getElem?_eq_none (by rw [cellsOf_length]; omega)] at h
    cases h
theorem words_of_block {w : World} {B n : Nat} {xs : List Nat} (hn : xs.length = n) (hr : ∀ x ∈ xs, x < 18446744073709551616) (hb : w.heap[B]? = some (.cells (cellsOf xs).toArray 24 (0, 0))) : Words w (.slice (some ⟨B, 0, none⟩) n n) xs := by
  refine ⟨⟨_, n, by rw [hn], fun _ => ⟨B, 0, rfl, (Array.getElem?_eq_some_iff.1 hb).1, fun i hi => ?_⟩⟩, hr⟩
  rw [Nat.zero_add, cell_of_row _ _ _ _ _ _ hb]
  simp [cellsOf, List.getD_eq_getElem?_getD, hi]
/-- Where the cells of a slice that is not nil lie. -/
theorem Words.src {w : World} {ad : Addr} {n c : Nat} {xs : List Nat} (h : Words w (.slice (some ad) n c) xs) (hn : xs.length = n) : ∀ j v, (cellsOf xs)[j]? = some v → w.cell? (ad.add j) = some v ∧ ad.block < w.heap.size := by
  intro j v hv
  obtain ⟨hj, rfl⟩ := cellsOf_get xs j v hv
  obtain ⟨a, cap, ha, hx⟩ := h.val
  obtain ⟨b, off, hb, hlt, hc⟩ := hx (by omega)
  simp only [Value.slice.injEq] at ha
  obtain ⟨ha, _⟩ := ha
  rw [← ha] at hb
  simp only [Option.some.injEq] at hb
  subst hb
  have hadd : (⟨b, off, none⟩ : Addr).add j = ⟨b, off + j, none⟩ := by unfold Addr.add; split <;> simp_all
  rw [hadd]
  exact ⟨hc j hj, hlt⟩

theorem Words.at' {w : World} {a : Option Addr} {n c : Nat} {xs : List Nat} (h : Words w (.slice a n c) xs) (hn : xs.length = n) : 0 < n → ∃ b off, a = some ⟨b, off, none⟩ ∧ b < w.heap.size ∧ ∀ i, i < n → w.cell? ⟨b, off + i, none⟩ = some (.int .u64 (xs.getD i 0 : Nat)) := by
  obtain ⟨a', cap, ha, hx⟩ := h.val
  simp only [Value.slice.injEq] at ha
  obtain ⟨rfl, _, _⟩ := ha
  rw [hn] at hx
  exact hx

set_option maxHeartbeats 12800000 in
set_option maxRecDepth 100000 in
theorem law6 (a b : Option Addr) (n c m d : Nat) (xs ys : List Nat) (w : World) (hu : Words w (.slice a n c) xs) (hv : Words w (.slice b m d) ys) (hn : xs.length = n) (hm : ys.length = m) (hs : n + m ≤ 131072) :
    Calls Try.prog 3 #[.slice a n c, .slice b m d] w fun e w' => e = .returned (.bool true) ∧ Below w.heap.size w w' := by
  obtain ⟨i0, hi, hz0, hz1, hz2⟩ := info_parts Try.info24
  have hnA := fun w => run_neq_slice_nil_any (P := Try.prog) w 22 24 a n c 0 0 Try.underlying22
  have hnB := fun w => run_neq_slice_nil_any (P := Try.prog) w 22 24 b m d 0 0 Try.underlying22
  have HN : Hid (xs.length = n ∧ ys.length = m) := ⟨hn, hm⟩
  have HU : Hid (Words w (.slice a n c) xs) := hu
  have HV : Hid (Words w (.slice b m d) ys) := hv
  have HX : Hid (0 < n → ∃ b off, a = some ⟨b, off, none⟩ ∧ b < w.heap.size ∧ ∀ i, i < n → w.cell? ⟨b, off + i, none⟩ = some (.int .u64 (xs.getD i 0 : Nat))) := hu.at' hn
  have HY : Hid (0 < m → ∃ b' off, b = some ⟨b', off, none⟩ ∧ b' < w.heap.size ∧ ∀ i, i < m → w.cell? ⟨b', off + i, none⟩ = some (.int .u64 (ys.getD i 0 : Nat))) := hv.at' hm
  clear hu hv hn hm
  go_enter Try.func3, Try.ntmps3
  go_wp2_with fail
  refine (bytes5_any _ _ _ _ _ _ _ (by omega) (by omega)).mono ?_
  rintro e w' ⟨r, rfl, rfl⟩
  cases r
  · go_wp2_with fail
    go_ret
    exact ⟨rfl, Below.refl _ _⟩
  · have s1 : n ≤ 131072 := by omega
    have s2 : m ≤ 131072 := by omega
    have s3 : (n : Int) + m ≤ 131072 := by omega
    go_upto_region 7 with fail
    go_cut [39] from 10 (fun t wc => (∃ B : Bool, t = .bool B ∧ (B = false → Canon xs)) ∧ w' = wc)
    case first =>
      by_cases h0 : n = 0
      · subst h0
        go_wp2_with fail
        go_meet
        case rel => exact ⟨⟨_, rfl, fun _ h => by rw [HN.out.1] at h; omega⟩, rfl⟩
      · obtain ⟨b, off, rfl, hb, hx⟩ := HX.out (by omega)
        have x0 := hx (n - 1) (by omega)
        have HL : Hid (xs.getD (xs.length - 1) 0 = xs.getD (n - 1) 0) := by show _ = _; rw [HN.out.1]
        generalize xs.getD (n - 1) 0 = x at x0 HL
        have b1 : 0 < n := by omega
        clear hx
        go_wp2_with fail
        go_meet
        case rel => exact ⟨⟨_, rfl, fun h _ => by rw [HL.out]; intro e; rw [e] at h; simp at h⟩, rfl⟩
    case rest =>
      obtain ⟨⟨B, rfl, HCX0⟩, rfl⟩ := hcut
      cases B
      case true =>
        go_wp2_with fail
        go_ret
        exact ⟨rfl, Below.refl _ _⟩
      case false =>
        have HCX : Hid (Canon xs) := HCX0 rfl
        clear HCX0
        go_upto_region 9 with fail
        go_cut [51] from 10 (fun t wc => (∃ B : Bool, t = .bool B ∧ (B = false → Canon ys)) ∧ w' = wc)
        case first =>
          by_cases h0 : m = 0
          · subst h0
            go_wp2_with fail
            go_meet
            case rel => exact ⟨⟨_, rfl, fun _ h => by rw [HN.out.2] at h; omega⟩, rfl⟩
          · obtain ⟨b, off, rfl, hb, hx⟩ := HY.out (by omega)
            have x0 := hx (m - 1) (by omega)
            have HL : Hid (ys.getD (ys.length - 1) 0 = ys.getD (m - 1) 0) := by show _ = _; rw [HN.out.2]
            generalize ys.getD (m - 1) 0 = x at x0 HL
            have b1 : 0 < m := by omega
            clear hx
            go_wp2_with fail
            go_meet
            case rel => exact ⟨⟨_, rfl, fun h _ => by rw [HL.out]; intro e; rw [e] at h; simp at h⟩, rfl⟩
        case rest =>
          obtain ⟨⟨B, rfl, HCY0⟩, rfl⟩ := hcut
          cases B
          case true =>
            go_wp2_with fail
            go_ret
            exact ⟨rfl, Below.refl _ _⟩
          case false =>
            have HCY : Hid (Canon ys) := HCY0 rfl
            clear HCY0
            clear HX HY
            go_upto_if 53 with fail
            go_cut [0] from 10 (fun t wc => (∃ a' c', t = .slice a' n c' ∧ Words wc (.slice a' n c') xs) ∧ Kept w' wc)
            case first =>
              cases a with
              | none =>
                go_wp2_with fail
                go_meet
                case rel => exact ⟨⟨_, _, rfl, HU.out⟩, Kept.refl _⟩
              | some adA =>
                go_wp2_with (at_make; refine wpList_make_full _ rfl (.tmp 55) (.tmp 55) 22 rfl w'.heap.size 24 i0 (.int .u64 0) 1 Try.underlying22 hi hz0 hz1 .i64 .i64 _ _ n rfl rfl (by omega) (by omega) ?b2A ?b3A ?b4A ?_)
                case b2A => rw [hz2]; omega
                case b3A => unfold maxLen; omega
                case b4A => omega
                intro w1A hown hgrow
                obtain ⟨curA, hcurA, hszA⟩ : ∃ cur : Array Value, w1A.heap[w'.heap.size]? = some (.cells cur 24 (0, 0)) ∧ cur.size = n := by
                  rcases hown.2 with ⟨h, _⟩ | ⟨g, cap, cur, hv, _, hg, _, _, hs, _⟩
                  · cases h
                  · simp only [Value.slice.injEq, Option.some.injEq, Addr.mk.injEq, true_and, and_true] at hv
                    obtain ⟨rfl, rfl⟩ := hv
                    exact ⟨cur, hg, by omega⟩
                have hbelA : Below w'.heap.size w' w1A := (Below.refl _ _).grown hgrow (Nat.le_refl _) (fun k h => by cases h)
                have HSA : Hid (∀ j v, (cellsOf xs)[j]? = some v → w1A.cell? (adA.add j) = some v) := fun j v hj => by
                  obtain ⟨e1, e2⟩ := HU.out.src HN.out.1 j v hj
                  have hbl : (adA.add j).block = adA.block := by unfold Addr.add; split <;> rfl
                  exact (hbelA.cell (by rw [hbl]; exact e2)).trans e1
                have HLA : Hid ((cellsOf xs).length = n) := by show _ = _; rw [cellsOf_length]; exact HN.out.1
                clear hown hgrow
                go_wp2_with (refine wpList_copy_splice rfl (.tmp 57) (.tmp 58) 22 22 rfl 24 Try.underlying22 ?s1A _ _ n n n c rfl rfl w'.heap.size 0 curA.toList 24 ?s2A (cellsOf xs) ?s3A ?s4A ?s5A ?s6A w'.heap.size w' hbelA ?s7A ?_)
                case s1A => rw [hi]; simp [hz1]
                case s2A => simpa using hcurA
                case s3A => rw [HLA.out]; exact (Nat.min_self n).symm
                case s4A => first | exact fun _ => HSA.out | exact fun _ => ⟨rfl, adA, rfl, HSA.out⟩
                case s5A => rw [HLA.out]; simp [hszA]
                case s6A => intro v hv; simp only [cellsOf, List.mem_map] at hv; obtain ⟨b, _, rfl⟩ := hv; rfl
                case s7A => exact Nat.le_refl _
                intro w2A hblkA hbel2A
                rw [splice_all _ _ (by rw [HLA.out]; simp [hszA])] at hblkA
                have kkA : Kept w' w2A := ⟨hbel2A.os, hbel2A.tape, hbel2A.output, hbel2A.size, hbel2A.block⟩
                have wwA : Words w2A (.slice (some ⟨w'.heap.size, 0, none⟩) n n) xs := words_of_block HN.out.1 HU.out.range hblkA.out
                clear hcurA hbelA HSA HLA hblkA hbel2A hszA
                generalize w'.heap.size = GA at wwA ⊢
                go_wp2_with fail
                go_meet
                case rel => exact ⟨⟨_, _, rfl, wwA⟩, kkA⟩
            case rest =>
              rename World => wA
              obtain ⟨⟨aA, cA, rfl, hA⟩, kA⟩ := hcut
              have hV2 := HV.out.kept kA
              clear HU HV
              have HV : Hid (Words wA (.slice b m d) ys) := hV2
              clear hV2
              have HA0 : Hid (Words wA (.slice aA n cA) xs) := hA
              clear hA
              go_upto_if 62 with fail
              go_cut [1] from 10 (fun t wc => (∃ a' c', t = .slice a' m c' ∧ Words wc (.slice a' m c') ys) ∧ Kept wA wc)
              case first =>
                cases b with
                | none =>
                  go_wp2_with fail
                  go_meet
                  case rel => exact ⟨⟨_, _, rfl, HV.out⟩, Kept.refl _⟩
                | some adB =>
                  go_wp2_with (at_make; refine wpList_make_full _ rfl (.tmp 64) (.tmp 64) 22 rfl wA.heap.size 24 i0 (.int .u64 0) 1 Try.underlying22 hi hz0 hz1 .i64 .i64 _ _ m rfl rfl (by omega) (by omega) ?b2B ?b3B ?b4B ?_)
                  case b2B => rw [hz2]; omega
                  case b3B => unfold maxLen; omega
                  case b4B => omega
                  intro w1B hown hgrow
                  obtain ⟨curB, hcurB, hszB⟩ : ∃ cur : Array Value, w1B.heap[wA.heap.size]? = some (.cells cur 24 (0, 0)) ∧ cur.size = m := by
                    rcases hown.2 with ⟨h, _⟩ | ⟨g, cap, cur, hv, _, hg, _, _, hs, _⟩
                    · cases h
                    · simp only [Value.slice.injEq, Option.some.injEq, Addr.mk.injEq, true_and, and_true] at hv
                      obtain ⟨rfl, rfl⟩ := hv
                      exact ⟨cur, hg, by omega⟩
                  have hbelB : Below wA.heap.size wA w1B := (Below.refl _ _).grown hgrow (Nat.le_refl _) (fun k h => by cases h)
                  have HSB : Hid (∀ j v, (cellsOf ys)[j]? = some v → w1B.cell? (adB.add j) = some v) := fun j v hj => by
                    obtain ⟨e1, e2⟩ := HV.out.src HN.out.2 j v hj
                    have hbl : (adB.add j).block = adB.block := by unfold Addr.add; split <;> rfl
                    exact (hbelB.cell (by rw [hbl]; exact e2)).trans e1
                  have HLB : Hid ((cellsOf ys).length = m) := by show _ = _; rw [cellsOf_length]; exact HN.out.2
                  clear hown hgrow
                  go_wp2_with (refine wpList_copy_splice rfl (.tmp 66) (.tmp 67) 22 22 rfl 24 Try.underlying22 ?s1B _ _ m m m d rfl rfl wA.heap.size 0 curB.toList 24 ?s2B (cellsOf ys) ?s3B ?s4B ?s5B ?s6B wA.heap.size wA hbelB ?s7B ?_)
                  case s1B => rw [hi]; simp [hz1]
                  case s2B => simpa using hcurB
                  case s3B => rw [HLB.out]; exact (Nat.min_self m).symm
                  case s4B => first | exact fun _ => HSB.out | exact fun _ => ⟨rfl, adB, rfl, HSB.out⟩
                  case s5B => rw [HLB.out]; simp [hszB]
                  case s6B => intro v hv; simp only [cellsOf, List.mem_map] at hv; obtain ⟨b, _, rfl⟩ := hv; rfl
                  case s7B => exact Nat.le_refl _
                  intro w2B hblkB hbel2B
                  rw [splice_all _ _ (by rw [HLB.out]; simp [hszB])] at hblkB
                  have kkB : Kept wA w2B := ⟨hbel2B.os, hbel2B.tape, hbel2B.output, hbel2B.size, hbel2B.block⟩
                  have wwB : Words w2B (.slice (some ⟨wA.heap.size, 0, none⟩) m m) ys := words_of_block HN.out.2 HV.out.range hblkB.out
                  clear hcurB hbelB HSB HLB hblkB hbel2B hszB
                  generalize wA.heap.size = GB at wwB ⊢
                  go_wp2_with fail
                  go_meet
                  case rel => exact ⟨⟨_, _, rfl, wwB⟩, kkB⟩
              case rest =>
                rename World => wB
                obtain ⟨⟨aB, cB, rfl, hB⟩, kB⟩ := hcut
                have hA := HA0.out.kept kB
                have kW := kA.trans kB
                clear HA0 HV kA kB
                go_wp2_with fail
                refine (newSet_any _ _ _ _).mono ?_
                rintro e w3 ⟨rfl, k3⟩
                have hA3 := hA.kept k3
                have hB3 := hB.kept k3
                have k03 := kW.trans k3
                clear hA hB kW k3
                go_wp2_with fail
                refine (newSet_any _ _ _ _).mono ?_
                rintro e w4 ⟨rfl, k4⟩
                have hA4 := hA3.kept k4
                have hB4 := hB3.kept k4
                have k04 := k03.trans k4
                clear hA3 hB3 k03 k4
                go_wp2_with fail
                refine (inter_any _ _ xs ys _ hA4 hB4 (by rw [HN.out.1]; omega) (by rw [HN.out.2]; omega) HCX.out HCY.out).mono ?_
                rintro e w5 ⟨r, ts, rfl, hT, hInt, k5⟩
                obtain ⟨ra, rcap, rfl, _⟩ := hT.val
                have hA5 := hA4.kept k5
                have hB5 := hB4.kept k5
                have k05 := k04.trans k5
                clear hA4 hB4 k04 k5
                have HI : Hid (IsInter ts xs ys) := hInt
                clear hInt
                go_wp2_with fail
                refine (words_any _ _).mono ?_
                rintro e w6 ⟨rfl, k6⟩
                have hA6 := hA5.kept k6
                have hB6 := hB5.kept k6
                have hT6 := hT.kept k6
                have k06 := k05.trans k6
                clear hA5 hB5 hT k05 k6
                go_wp2_with fail
                refine (max_any n m _).mono ?_
                rintro e w7 ⟨rfl, rfl⟩
                have hl := HI.out.len
                rw [HN.out.1, HN.out.2] at hl
                have hq1 : n ≤ Nat.max n m := Nat.le_max_left _ _
                have hq2 : m ≤ Nat.max n m := Nat.le_max_right _ _
                have hq3 : Nat.max n m ≤ 131072 := Nat.max_le.2 ⟨by omega, by omega⟩
                generalize Nat.max n m = q at hq1 hq2 hq3 ⊢
                go_wp2_with fail
                refine (canon_any _ ts q _ hT6 HI.out.canon (by omega) (by omega)).mono ?_
                rintro e w8 ⟨rfl, rfl⟩
                obtain ⟨Q, hQ⟩ : ∃ Q, 64 * q = Q := ⟨_, rfl⟩
                have hQ2 : (64 : Int) * (q : Int) = (Q : Int) := by omega
                have hQ3 : Q ≤ 8388608 := by omega
                have HT : Hid (Words w8 (.slice ra ts.length rcap) ts) := hT6
                have HTL : Hid (ts.length ≤ 1048576) := by show _ ≤ _; omega
                have HAB : Hid (Words w8 (.slice aA n cA) xs ∧ Words w8 (.slice aB m cB) ys) := ⟨hA6, hB6⟩
                clear hT6 hA6 hB6 hq1 hq2 hl hQ
                generalize ts.length = tl at HT ⊢
                go_wp2_with fail
                go_loopw [9] (fun i wr => ∃ k : Nat, k ≤ Q ∧ i = .int .i64 k ∧ wr = w8) (fun i _ => Q - (intOf i).toNat)
                case atStart => exact ⟨0, by omega, rfl, rfl⟩
                case round =>
                  obtain ⟨k, hk, rfl, rfl⟩ := hrel
                  by_cases hlt : k < Q
                  · have hh := HI.out.has k
                    have b1 : (k : Int) < Q := by omega
                    go_wp2_with fail
                    refine (has_any _ ts k _ HT.out (by omega) HTL.out).mono ?_
                    rintro e w9 ⟨rfl, rfl⟩
                    rw [hh]
                    clear hh
                    go_wp2_with fail
                    refine (has_any _ xs k _ HAB.out.1 (by omega) (by rw [HN.out.1]; omega)).mono ?_
                    rintro e w10 ⟨rfl, rfl⟩
                    cases hasB xs k
                    · rw [Bool.false_and]
                      go_wp2_with fail
                      go_roundw
                      case rel => exact ⟨k + 1, by omega, by go_num, by trivial⟩
                      case measure => simp [intOf]; omega
                    · rw [Bool.true_and]
                      go_wp2_with fail
                      refine (has_any _ ys k _ HAB.out.2 (by omega) (by rw [HN.out.2]; omega)).mono ?_
                      rintro e w11 ⟨rfl, rfl⟩
                      cases hasB ys k
                      · go_wp2_with fail
                        go_roundw
                        case rel => exact ⟨k + 1, by omega, by go_num, by trivial⟩
                        case measure => simp [intOf]; omega
                      · go_wp2_with fail
                        go_roundw
                        case rel => exact ⟨k + 1, by omega, by go_num, by trivial⟩
                        case measure => simp [intOf]; omega
                  · have ek : Q = k := by omega
                    subst ek
                    go_wp2_with fail
                    go_ret
                    exact ⟨rfl, k06.below⟩
end Go.Proofs.Qxb6627537a
