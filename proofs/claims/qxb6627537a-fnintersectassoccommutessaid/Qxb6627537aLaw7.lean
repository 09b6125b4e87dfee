import Derived.Test.Qxb6627537aLaw6
import Derived.Deep.RegionWith
namespace Go.Proofs.Qxb6627537a
open Go.RowKit

set_option maxRecDepth 100000 in
theorem bytes12_any (a b a3 : Option Addr) (n c m d l f : Nat) (w : World) (hn : n ≤ 9223372036854775807) (hm : m ≤ 9223372036854775807) (hl : l ≤ 9223372036854775807) : Calls Try.prog 12 #[.slice a n c, .slice b m d, .slice a3 l f] w (BPost w) := by
  by_cases h1 : 1048576 < n
  · go_enter Try.func12, Try.ntmps12
    go_wp2
    go_ret
    exact ⟨_, rfl, rfl⟩
  · by_cases h2 : 1048576 < m
    · go_enter Try.func12, Try.ntmps12
      go_wp2
      go_ret
      exact ⟨_, rfl, rfl⟩
    · by_cases h3 : 1048576 < n + m
      · have h4 : (1048576 : Int) < (n : Int) + m := by omega
        go_enter Try.func12, Try.ntmps12
        go_wp2
        go_ret
        exact ⟨_, rfl, rfl⟩
      · have h4 : (n : Int) + m ≤ 1048576 := by omega
        by_cases h5 : 1048576 < l
        · go_enter Try.func12, Try.ntmps12
          go_wp2
          go_ret
          exact ⟨_, rfl, rfl⟩
        · by_cases h6 : 1048576 < n + m + l
          · have h7 : (1048576 : Int) < (n : Int) + m + l := by omega
            go_enter Try.func12, Try.ntmps12
            go_wp2
            go_ret
            exact ⟨_, rfl, rfl⟩
          · have h7 : (n : Int) + m + l ≤ 1048576 := by omega
            go_enter Try.func12, Try.ntmps12
            go_wp2
            go_ret
            exact ⟨_, rfl, rfl⟩

/-- A variable of type Set that holds v. -/
structure Has (W : World) (H : Nat) (v : Value) : Prop where
  b : W.heap[H]? = some (.cells #[v] 27 (0, 0))
theorem Has.new (W : World) (v : Value) : Has (W.alloc (.cells #[v] 27)) W.heap.size v := ⟨heap_alloc_new W _⟩
theorem Has.keep {W W' : World} {H : Nat} {v : Value} (h : Has W H v) (k : Kept W W') : Has W' H v := ⟨(k.block _ (Array.getElem?_eq_some_iff.1 h.b).1).trans h.b⟩
theorem Has.cell {W : World} {H : Nat} {v : Value} (h : Has W H v) : W.cell? ⟨H, 0, none⟩ = some v := by rw [cell_of_row _ _ _ _ _ _ h.b]; rfl

/-- The three arguments' words. -/
structure St (w V : World) (A B C : Value) (xs ys zs : List Nat) : Prop where
  k : Kept w V
  a : Words V A xs
  b : Words V B ys
  c : Words V C zs
theorem St.keep {w V V' : World} {A B C : Value} {xs ys zs : List Nat} (h : St w V A B C xs ys zs) (k : Kept V V') : St w V' A B C xs ys zs := ⟨h.k.trans k, h.a.kept k, h.b.kept k, h.c.kept k⟩

/-- The intersection, its slice named. -/
def InterAt (xs ys : List Nat) (w : World) (e : Ending) (w' : World) : Prop := ∃ ra p rc ts, e = .returned (.agg #[.slice ra p rc]) ∧ ts.length = p ∧ Words w' (.slice ra p rc) ts ∧ IsInter ts xs ys ∧ Kept w w'
theorem inter_at (u v : Value) (xs ys : List Nat) (w : World) (hu : Words w u xs) (hv : Words w v ys) (hx1 : xs.length ≤ 1048576) (hy1 : ys.length ≤ 1048576) (hcx : Canon xs) (hcy : Canon ys) :
    Calls Try.prog 8 #[.agg #[u], .agg #[v]] w (InterAt xs ys w) := by
  refine (inter_any u v xs ys w hu hv hx1 hy1 hcx hcy).mono ?_
  rintro e w' ⟨r, ts, rfl, hT, hI, k⟩
  obtain ⟨a, cap, rfl, _⟩ := hT.val
  exact ⟨a, _, cap, ts, rfl, rfl, hT, hI, k⟩
theorem words_from (V : World) (v : Value) (w : World) (k : Kept V w) : Calls Try.prog 6 #[.agg #[v]] w fun e w' => e = .returned v ∧ Kept V w' :=
  (words_any v w).mono fun _ _ h => ⟨h.1, k.trans h.2⟩
theorem inter_swap {ts us xs ys : List Nat} (h : IsInter ts xs ys) (k : IsInter us ys xs) : us = ts :=
  canon_ext k.canon h.canon fun i => by rw [h.at', k.at', Nat.and_comm]
theorem inter_assoc {ts ls qs rs xs ys zs : List Nat} (h : IsInter ts xs ys) (k : IsInter ls ts zs) (q : IsInter qs ys zs) (r : IsInter rs xs qs) : rs = ls :=
  canon_ext r.canon k.canon fun i => by rw [r.at', q.at', k.at', h.at', Nat.and_assoc]
theorem inter_has3 {ts ls xs ys zs : List Nat} (h : IsInter ts xs ys) (k : IsInter ls ts zs) (id : Nat) : hasB ls id = (hasB xs id && hasB ys id && hasB zs id) := by
  rw [k.has, h.has]

set_option maxHeartbeats 25600000 in
set_option maxRecDepth 100000 in
theorem law7 (a b a3 : Option Addr) (n c m d l f : Nat) (xs ys zs : List Nat) (w : World) (hu : Words w (.slice a n c) xs) (hv : Words w (.slice b m d) ys) (hw : Words w (.slice a3 l f) zs) (hn : xs.length = n) (hm : ys.length = m) (hl : zs.length = l) (hs : n + m + l ≤ 131072) :
    Calls Try.prog 4 #[.slice a n c, .slice b m d, .slice a3 l f] w fun e w' => e = .returned (.bool true) ∧ Below w.heap.size w w' := by
  obtain ⟨i0, hi, hz0, hz1, hz2⟩ := info_parts Try.info24
  have hnA := fun w => run_neq_slice_nil_any (P := Try.prog) w 22 24 a n c 0 0 Try.underlying22
  have hnB := fun w => run_neq_slice_nil_any (P := Try.prog) w 22 24 b m d 0 0 Try.underlying22
  have hnC := fun w => run_neq_slice_nil_any (P := Try.prog) w 22 24 a3 l f 0 0 Try.underlying22
  have HN : Hid (xs.length = n ∧ ys.length = m ∧ zs.length = l) := ⟨hn, hm, hl⟩
  have HU : Hid (Words w (.slice a n c) xs) := hu
  have HV : Hid (Words w (.slice b m d) ys) := hv
  have HW : Hid (Words w (.slice a3 l f) zs) := hw
  have HX : Hid (0 < n → ∃ b off, a = some ⟨b, off, none⟩ ∧ b < w.heap.size ∧ ∀ i, i < n → w.cell? ⟨b, off + i, none⟩ = some (.int .u64 (xs.getD i 0 : Nat))) := hu.at' hn
  have HY : Hid (0 < m → ∃ b' off, b = some ⟨b', off, none⟩ ∧ b' < w.heap.size ∧ ∀ i, i < m → w.cell? ⟨b', off + i, none⟩ = some (.int .u64 (ys.getD i 0 : Nat))) := hv.at' hm
  have HZ : Hid (0 < l → ∃ b' off, a3 = some ⟨b', off, none⟩ ∧ b' < w.heap.size ∧ ∀ i, i < l → w.cell? ⟨b', off + i, none⟩ = some (.int .u64 (zs.getD i 0 : Nat))) := hw.at' hl
  clear hu hv hw hn hm hl
  go_enter Try.func4, Try.ntmps4
  go_wp2_with fail
  refine (bytes12_any _ _ _ _ _ _ _ _ _ _ (by omega) (by omega) (by omega)).mono ?_
  rintro e w' ⟨r, rfl, rfl⟩
  cases r
  · go_wp2_with fail
    go_ret
    exact ⟨rfl, Below.refl _ _⟩
  · have s1 : n ≤ 131072 := by omega
    have s2 : m ≤ 131072 := by omega
    have s2' : l ≤ 131072 := by omega
    have s3 : (n : Int) + m ≤ 131072 := by omega
    have s4 : (n : Int) + m + l ≤ 131072 := by omega
    go_upto_region 9 with fail
    go_cut [63] from 19 (fun t wc => (∃ B : Bool, t = .bool B ∧ (B = false → Canon xs)) ∧ w' = wc)
    case first =>
      as_aux_lemma =>
        by_cases h0 : n = 0
        · subst h0
          go_wp2_with fail
          go_meet
          case rel => exact ⟨⟨_, rfl, fun _ h => by rw [HN.out.1] at h; omega⟩, rfl⟩
        · obtain ⟨b, off, rfl, hb, hx⟩ := HX.out (by omega)
          have x0 := hx (n - 1) (by omega)
          have HL : Hid (xs.getD (xs.length - 1) 0 = xs.getD (n - 1) 0) := by show _ = _; rw [HN.out.1]
          generalize xs.getD (n - 1) 0 = x at x0 HL
          have b1 : 0 < n := by omega
          clear hx
          go_wp2_with fail
          go_meet
          case rel => exact ⟨⟨_, rfl, fun h _ => by rw [HL.out]; intro e; rw [e] at h; simp at h⟩, rfl⟩
    case rest =>
      obtain ⟨⟨B, rfl, HCX0⟩, rfl⟩ := hcut
      cases B
      case true =>
        go_wp2_with fail
        go_ret
        exact ⟨rfl, Below.refl _ _⟩
      case false =>
        have HCX : Hid (Canon xs) := HCX0 rfl
        clear HCX0
        go_upto_region 11 with fail
        go_cut [75] from 19 (fun t wc => (∃ B : Bool, t = .bool B ∧ (B = false → Canon ys)) ∧ w' = wc)
        case first =>
          as_aux_lemma =>
            by_cases h0 : m = 0
            · subst h0
              go_wp2_with fail
              go_meet
              case rel => exact ⟨⟨_, rfl, fun _ h => by rw [HN.out.2.1] at h; omega⟩, rfl⟩
            · obtain ⟨b, off, rfl, hb, hx⟩ := HY.out (by omega)
              have x0 := hx (m - 1) (by omega)
              have HL : Hid (ys.getD (ys.length - 1) 0 = ys.getD (m - 1) 0) := by show _ = _; rw [HN.out.2.1]
              generalize ys.getD (m - 1) 0 = x at x0 HL
              have b1 : 0 < m := by omega
              clear hx
              go_wp2_with fail
              go_meet
              case rel => exact ⟨⟨_, rfl, fun h _ => by rw [HL.out]; intro e; rw [e] at h; simp at h⟩, rfl⟩
        case rest =>
          obtain ⟨⟨B, rfl, HCY0⟩, rfl⟩ := hcut
          cases B
          case true =>
            go_wp2_with fail
            go_ret
            exact ⟨rfl, Below.refl _ _⟩
          case false =>
            have HCY : Hid (Canon ys) := HCY0 rfl
            clear HCY0
            go_upto_region 13 with fail
            go_cut [87] from 19 (fun t wc => (∃ B : Bool, t = .bool B ∧ (B = false → Canon zs)) ∧ w' = wc)
            case first =>
              as_aux_lemma =>
                by_cases h0 : l = 0
                · subst h0
                  go_wp2_with fail
                  go_meet
                  case rel => exact ⟨⟨_, rfl, fun _ h => by rw [HN.out.2.2] at h; omega⟩, rfl⟩
                · obtain ⟨b, off, rfl, hb, hx⟩ := HZ.out (by omega)
                  have x0 := hx (l - 1) (by omega)
                  have HL : Hid (zs.getD (zs.length - 1) 0 = zs.getD (l - 1) 0) := by show _ = _; rw [HN.out.2.2]
                  generalize zs.getD (l - 1) 0 = x at x0 HL
                  have b1 : 0 < l := by omega
                  clear hx
                  go_wp2_with fail
                  go_meet
                  case rel => exact ⟨⟨_, rfl, fun h _ => by rw [HL.out]; intro e; rw [e] at h; simp at h⟩, rfl⟩
            case rest =>
              obtain ⟨⟨B, rfl, HCZ0⟩, rfl⟩ := hcut
              cases B
              case true =>
                go_wp2_with fail
                go_ret
                exact ⟨rfl, Below.refl _ _⟩
              case false =>
                have HCZ : Hid (Canon zs) := HCZ0 rfl
                clear HCZ0
                clear HX HY HZ
                go_upto_if 89 with fail
                go_cut [0] from 19 (fun t wc => (∃ a' c', t = .slice a' n c' ∧ Words wc (.slice a' n c') xs) ∧ Kept w' wc)
                case first =>
                  as_aux_lemma =>
                    cases a with
                    | none =>
                      go_wp2_with fail
                      go_meet
                      case rel => exact ⟨⟨_, _, rfl, HU.out⟩, Kept.refl _⟩
                    | some adA =>
                      go_wp2_with (at_make; refine wpList_make_full _ rfl (.tmp 91) (.tmp 91) 22 rfl w'.heap.size 24 i0 (.int .u64 0) 1 Try.underlying22 hi hz0 hz1 .i64 .i64 _ _ n rfl rfl (by omega) (by omega) ?b2A ?b3A ?b4A ?_)
                      case b2A => rw [hz2]; omega
                      case b3A => unfold maxLen; omega
                      case b4A => omega
                      intro w1A hown hgrow
                      obtain ⟨curA, hcurA, hszA⟩ : ∃ cur : Array Value, w1A.heap[w'.heap.size]? = some (.cells cur 24 (0, 0)) ∧ cur.size = n := by
                        rcases hown.2 with ⟨h, _⟩ | ⟨g, cap, cur, hv, _, hg, _, _, hs, _⟩
                        · cases h
                        · simp only [Value.slice.injEq, Option.some.injEq, Addr.mk.injEq, true_and, and_true] at hv
                          obtain ⟨rfl, rfl⟩ := hv
                          exact ⟨cur, hg, by omega⟩
                      have hbelA : Below w'.heap.size w' w1A := (Below.refl _ _).grown hgrow (Nat.le_refl _) (fun k h => by cases h)
                      have HSA : Hid (∀ j v, (cellsOf xs)[j]? = some v → w1A.cell? (adA.add j) = some v) := fun j v hj => by
                        obtain ⟨e1, e2⟩ := HU.out.src HN.out.1 j v hj
                        have hbl : (adA.add j).block = adA.block := by unfold Addr.add; split <;> rfl
                        exact (hbelA.cell (by rw [hbl]; exact e2)).trans e1
                      have HLA : Hid ((cellsOf xs).length = n) := by show _ = _; rw [cellsOf_length]; exact HN.out.1
                      clear hown hgrow
                      go_wp2_with (refine wpList_copy_splice rfl (.tmp 93) (.tmp 94) 22 22 rfl 24 Try.underlying22 ?s1A _ _ n n n c rfl rfl w'.heap.size 0 curA.toList 24 ?s2A (cellsOf xs) ?s3A ?s4A ?s5A ?s6A w'.heap.size w' hbelA ?s7A ?_)
                      case s1A => rw [hi]; simp [hz1]
                      case s2A => simpa using hcurA
                      case s3A => rw [HLA.out]; exact (Nat.min_self n).symm
                      case s4A => first | exact fun _ => HSA.out | exact fun _ => ⟨rfl, adA, rfl, HSA.out⟩
                      case s5A => rw [HLA.out]; simp [hszA]
                      case s6A => intro v hv; simp only [cellsOf, List.mem_map] at hv; obtain ⟨b, _, rfl⟩ := hv; rfl
                      case s7A => exact Nat.le_refl _
                      intro w2A hblkA hbel2A
                      rw [splice_all _ _ (by rw [HLA.out]; simp [hszA])] at hblkA
                      have kkA : Kept w' w2A := ⟨hbel2A.os, hbel2A.tape, hbel2A.output, hbel2A.size, hbel2A.block⟩
                      have wwA : Words w2A (.slice (some ⟨w'.heap.size, 0, none⟩) n n) xs := words_of_block HN.out.1 HU.out.range hblkA.out
                      clear hcurA hbelA HSA HLA hblkA hbel2A hszA
                      generalize w'.heap.size = GA at wwA ⊢
                      go_wp2_with fail
                      go_meet
                      case rel => exact ⟨⟨_, _, rfl, wwA⟩, kkA⟩
                case rest =>
                  rename World => wA
                  obtain ⟨⟨aA, cA, rfl, hA⟩, kA⟩ := hcut
                  have hV2 := HV.out.kept kA
                  have hW2 := HW.out.kept kA
                  clear HU HV HW hnA
                  have HV : Hid (Words wA (.slice b m d) ys) := hV2
                  have HW : Hid (Words wA (.slice a3 l f) zs) := hW2
                  have HA0 : Hid (Words wA (.slice aA n cA) xs) := hA
                  clear hV2 hW2 hA
                  go_upto_if 98 with fail
                  go_cut [1] from 19 (fun t wc => (∃ a' c', t = .slice a' m c' ∧ Words wc (.slice a' m c') ys) ∧ Kept wA wc)
                  case first =>
                    as_aux_lemma =>
                      cases b with
                      | none =>
                        go_wp2_with fail
                        go_meet
                        case rel => exact ⟨⟨_, _, rfl, HV.out⟩, Kept.refl _⟩
                      | some adB =>
                        go_wp2_with (at_make; refine wpList_make_full _ rfl (.tmp 100) (.tmp 100) 22 rfl wA.heap.size 24 i0 (.int .u64 0) 1 Try.underlying22 hi hz0 hz1 .i64 .i64 _ _ m rfl rfl (by omega) (by omega) ?b2B ?b3B ?b4B ?_)
                        case b2B => rw [hz2]; omega
                        case b3B => unfold maxLen; omega
                        case b4B => omega
                        intro w1B hown hgrow
                        obtain ⟨curB, hcurB, hszB⟩ : ∃ cur : Array Value, w1B.heap[wA.heap.size]? = some (.cells cur 24 (0, 0)) ∧ cur.size = m := by
                          rcases hown.2 with ⟨h, _⟩ | ⟨g, cap, cur, hv, _, hg, _, _, hs, _⟩
                          · cases h
                          · simp only [Value.slice.injEq, Option.some.injEq, Addr.mk.injEq, true_and, and_true] at hv
                            obtain ⟨rfl, rfl⟩ := hv
                            exact ⟨cur, hg, by omega⟩
                        have hbelB : Below wA.heap.size wA w1B := (Below.refl _ _).grown hgrow (Nat.le_refl _) (fun k h => by cases h)
                        have HSB : Hid (∀ j v, (cellsOf ys)[j]? = some v → w1B.cell? (adB.add j) = some v) := fun j v hj => by
                          obtain ⟨e1, e2⟩ := HV.out.src HN.out.2.1 j v hj
                          have hbl : (adB.add j).block = adB.block := by unfold Addr.add; split <;> rfl
                          exact (hbelB.cell (by rw [hbl]; exact e2)).trans e1
                        have HLB : Hid ((cellsOf ys).length = m) := by show _ = _; rw [cellsOf_length]; exact HN.out.2.1
                        clear hown hgrow
                        go_wp2_with (refine wpList_copy_splice rfl (.tmp 102) (.tmp 103) 22 22 rfl 24 Try.underlying22 ?s1B _ _ m m m d rfl rfl wA.heap.size 0 curB.toList 24 ?s2B (cellsOf ys) ?s3B ?s4B ?s5B ?s6B wA.heap.size wA hbelB ?s7B ?_)
                        case s1B => rw [hi]; simp [hz1]
                        case s2B => simpa using hcurB
                        case s3B => rw [HLB.out]; exact (Nat.min_self m).symm
                        case s4B => first | exact fun _ => HSB.out | exact fun _ => ⟨rfl, adB, rfl, HSB.out⟩
                        case s5B => rw [HLB.out]; simp [hszB]
                        case s6B => intro v hv; simp only [cellsOf, List.mem_map] at hv; obtain ⟨b, _, rfl⟩ := hv; rfl
                        case s7B => exact Nat.le_refl _
                        intro w2B hblkB hbel2B
                        rw [splice_all _ _ (by rw [HLB.out]; simp [hszB])] at hblkB
                        have kkB : Kept wA w2B := ⟨hbel2B.os, hbel2B.tape, hbel2B.output, hbel2B.size, hbel2B.block⟩
                        have wwB : Words w2B (.slice (some ⟨wA.heap.size, 0, none⟩) m m) ys := words_of_block HN.out.2.1 HV.out.range hblkB.out
                        clear hcurB hbelB HSB HLB hblkB hbel2B hszB
                        generalize wA.heap.size = GB at wwB ⊢
                        go_wp2_with fail
                        go_meet
                        case rel => exact ⟨⟨_, _, rfl, wwB⟩, kkB⟩
                  case rest =>
                    rename World => wB
                    obtain ⟨⟨aB, cB, rfl, hB⟩, kB⟩ := hcut
                    have hA2 := HA0.out.kept kB
                    have hW2 := HW.out.kept kB
                    clear HV HW HA0 hnB
                    have HW : Hid (Words wB (.slice a3 l f) zs) := hW2
                    have HAB0 : Hid (Words wB (.slice aA n cA) xs ∧ Words wB (.slice aB m cB) ys) := ⟨hA2, hB⟩
                    clear hA2 hW2 hB
                    go_upto_if 107 with fail
                    go_cut [2] from 19 (fun t wc => (∃ a' c', t = .slice a' l c' ∧ Words wc (.slice a' l c') zs) ∧ Kept wB wc)
                    case first =>
                      as_aux_lemma =>
                        cases a3 with
                        | none =>
                          go_wp2_with fail
                          go_meet
                          case rel => exact ⟨⟨_, _, rfl, HW.out⟩, Kept.refl _⟩
                        | some adC =>
                          go_wp2_with (at_make; refine wpList_make_full _ rfl (.tmp 109) (.tmp 109) 22 rfl wB.heap.size 24 i0 (.int .u64 0) 1 Try.underlying22 hi hz0 hz1 .i64 .i64 _ _ l rfl rfl (by omega) (by omega) ?b2C ?b3C ?b4C ?_)
                          case b2C => rw [hz2]; omega
                          case b3C => unfold maxLen; omega
                          case b4C => omega
                          intro w1C hown hgrow
                          obtain ⟨curC, hcurC, hszC⟩ : ∃ cur : Array Value, w1C.heap[wB.heap.size]? = some (.cells cur 24 (0, 0)) ∧ cur.size = l := by
                            rcases hown.2 with ⟨h, _⟩ | ⟨g, cap, cur, hv, _, hg, _, _, hs, _⟩
                            · cases h
                            · simp only [Value.slice.injEq, Option.some.injEq, Addr.mk.injEq, true_and, and_true] at hv
                              obtain ⟨rfl, rfl⟩ := hv
                              exact ⟨cur, hg, by omega⟩
                          have hbelC : Below wB.heap.size wB w1C := (Below.refl _ _).grown hgrow (Nat.le_refl _) (fun k h => by cases h)
                          have HSC : Hid (∀ j v, (cellsOf zs)[j]? = some v → w1C.cell? (adC.add j) = some v) := fun j v hj => by
                            obtain ⟨e1, e2⟩ := HW.out.src HN.out.2.2 j v hj
                            have hbl : (adC.add j).block = adC.block := by unfold Addr.add; split <;> rfl
                            exact (hbelC.cell (by rw [hbl]; exact e2)).trans e1
                          have HLC : Hid ((cellsOf zs).length = l) := by show _ = _; rw [cellsOf_length]; exact HN.out.2.2
                          clear hown hgrow
                          go_wp2_with (refine wpList_copy_splice rfl (.tmp 111) (.tmp 112) 22 22 rfl 24 Try.underlying22 ?s1C _ _ l l l f rfl rfl wB.heap.size 0 curC.toList 24 ?s2C (cellsOf zs) ?s3C ?s4C ?s5C ?s6C wB.heap.size wB hbelC ?s7C ?_)
                          case s1C => rw [hi]; simp [hz1]
                          case s2C => simpa using hcurC
                          case s3C => rw [HLC.out]; exact (Nat.min_self l).symm
                          case s4C => first | exact fun _ => HSC.out | exact fun _ => ⟨rfl, adC, rfl, HSC.out⟩
                          case s5C => rw [HLC.out]; simp [hszC]
                          case s6C => intro v hv; simp only [cellsOf, List.mem_map] at hv; obtain ⟨b, _, rfl⟩ := hv; rfl
                          case s7C => exact Nat.le_refl _
                          intro w2C hblkC hbel2C
                          rw [splice_all _ _ (by rw [HLC.out]; simp [hszC])] at hblkC
                          have kkC : Kept wB w2C := ⟨hbel2C.os, hbel2C.tape, hbel2C.output, hbel2C.size, hbel2C.block⟩
                          have wwC : Words w2C (.slice (some ⟨wB.heap.size, 0, none⟩) l l) zs := words_of_block HN.out.2.2 HW.out.range hblkC.out
                          clear hcurC hbelC HSC HLC hblkC hbel2C hszC
                          generalize wB.heap.size = GC at wwC ⊢
                          go_wp2_with fail
                          go_meet
                          case rel => exact ⟨⟨_, _, rfl, wwC⟩, kkC⟩
                    case rest =>
                      rename World => wC
                      obtain ⟨⟨aC, cC, rfl, hC⟩, kC⟩ := hcut
                      have S0 : St w' wC (.slice aA n cA) (.slice aB m cB) (.slice aC l cC) xs ys zs := ⟨(kA.trans kB).trans kC, HAB0.out.1.kept kC, HAB0.out.2.kept kC, hC⟩
                      clear HW HAB0 kA kB kC hC hnC
                      go_wp2_with fail
                      refine (newSet_any _ _ _ _).mono ?_
                      rintro e w1 ⟨rfl, k1⟩
                      go_upto_region 28 with fail
                      have kk := k1.trans (Kept.alloc w1 (.cells #[.slice aA n cA] 27))
                      have p0 := Has.new w1 (.slice aA n cA)
                      have S1 := S0.keep kk
                      clear S0 k1 kk
                      generalize w1.alloc (.cells #[.slice aA n cA] 27) = V1 at p0 S1 ⊢
                      generalize w1.heap.size = H0 at p0 ⊢
                      go_wp2_with fail
                      refine (newSet_any _ _ _ _).mono ?_
                      rintro e w2 ⟨rfl, k1⟩
                      go_upto_region 29 with fail
                      have kk := k1.trans (Kept.alloc w2 (.cells #[.slice aB m cB] 27))
                      have p1 := Has.new w2 (.slice aB m cB)
                      have S2 := S1.keep kk
                      replace p0 := p0.keep kk
                      clear S1 k1 kk
                      generalize w2.alloc (.cells #[.slice aB m cB] 27) = V2 at p1 S2 p0 ⊢
                      generalize w2.heap.size = H1 at p1 ⊢
                      go_wp2_with fail
                      refine (newSet_any _ _ _ _).mono ?_
                      rintro e w3 ⟨rfl, k1⟩
                      go_upto_region 30 with fail
                      have kk := k1.trans (Kept.alloc w3 (.cells #[.slice aC l cC] 27))
                      have p2 := Has.new w3 (.slice aC l cC)
                      have S3 := S2.keep kk
                      replace p0 := p0.keep kk
                      replace p1 := p1.keep kk
                      clear S2 k1 kk
                      generalize w3.alloc (.cells #[.slice aC l cC] 27) = V3 at p2 S3 p0 p1 ⊢
                      generalize w3.heap.size = H2 at p2 ⊢
                      have c0 := p0.cell
                      have c1 := p1.cell
                      go_wp2_with fail
                      refine (inter_at _ _ xs ys _ S3.a S3.b (by rw [HN.out.1]; omega) (by rw [HN.out.2.1]; omega) HCX.out HCY.out).mono ?_
                      rintro e w4 ⟨ra, p, rc, ts, rfl, hp, hT, hI, k4⟩
                      have HI1 : Hid (IsInter ts xs ys ∧ ts.length = p) := ⟨hI, hp⟩
                      have q1 : p ≤ n := by have := hI.len.1; rw [hp, HN.out.1] at this; exact this
                      clear hI hp c0 c1
                      replace hT := hT.kept (Kept.alloc w4 (.cells #[.slice ra p rc] 27))
                      go_upto_region 31 with fail
                      have kk := k4.trans (Kept.alloc w4 (.cells #[.slice ra p rc] 27))
                      have p3 := Has.new w4 (.slice ra p rc)
                      have S4 := S3.keep kk
                      replace p0 := p0.keep kk
                      replace p1 := p1.keep kk
                      replace p2 := p2.keep kk
                      clear S3 k4 kk
                      generalize w4.alloc (.cells #[.slice ra p rc] 27) = V4 at hT p3 S4 p0 p1 p2 ⊢
                      generalize w4.heap.size = H3 at p3 ⊢
                      have c0 := p0.cell
                      have c1 := p1.cell
                      go_wp2_with fail
                      refine (inter_at _ _ ys xs _ S4.b S4.a (by rw [HN.out.2.1]; omega) (by rw [HN.out.1]; omega) HCY.out HCX.out).mono ?_
                      rintro e w5 ⟨rb, p', rd, us, rfl, hp, hU, hI, k5⟩
                      have eu : us = ts := inter_swap HI1.out.1 hI
                      rw [eu] at hU hp
                      have ep : p' = p := hp.symm.trans HI1.out.2
                      rw [ep] at hU ⊢
                      clear hI hp c0 c1 eu ep
                      replace hU := hU.kept (Kept.alloc w5 (.cells #[.slice rb p rd] 27))
                      go_upto_region 32 with fail
                      have kk := k5.trans (Kept.alloc w5 (.cells #[.slice rb p rd] 27))
                      have p4 := Has.new w5 (.slice rb p rd)
                      have S5 := S4.keep kk
                      replace p0 := p0.keep kk
                      replace p1 := p1.keep kk
                      replace p2 := p2.keep kk
                      replace p3 := p3.keep kk
                      replace hT := hT.kept kk
                      clear S4 k5 kk
                      generalize w5.alloc (.cells #[.slice rb p rd] 27) = V5 at hU p4 S5 p0 p1 p2 p3 hT ⊢
                      generalize w5.heap.size = H4 at p4 ⊢
                      have HP : Hid (∀ W', Kept V5 W' → W'.cell? ⟨H3, 0, none⟩ = some (.slice ra p rc) ∧ W'.cell? ⟨H4, 0, none⟩ = some (.slice rb p rd)) := fun W' k => ⟨(p3.keep k).cell, (p4.keep k).cell⟩
                      have HQ : Hid (∀ W', Kept V5 W' → Words W' (.slice ra p rc) ts ∧ Words W' (.slice rb p rd) ts) := fun W' k => ⟨hT.kept k, hU.kept k⟩
                      have c3 := p3.cell
                      have c4 := p4.cell
                      have KD : Kept V5 V5.drew := (Kept.refl _).drew
                      go_cut [132] from 19 (fun t wc => t = .bool false ∧ Kept V5 wc)
                      case first =>
                        as_aux_lemma =>
                          go_region_with (first
                            | (go_at_call 6; refine (words_from V5 _ _ ?_).mono ?_; assumption; rintro e wn ⟨rfl, kn⟩; obtain ⟨d3, d4⟩ := HP.out wn kn)
                            | (go_at_call 13; refine (same_any _ _ ts _ ?_ ?_ ?_).mono ?_; exact (HQ.out _ kn).1; exact (HQ.out _ kn).2; exact (by rw [HI1.out.2]; omega); rintro e wm ⟨rfl, km⟩; replace kn := kn.trans km))
                          all_goals (go_wp2_with fail; go_meet; exact ⟨rfl, kn⟩)
                      case rest =>
                        rename World => V6
                        obtain ⟨rfl, k6⟩ := hcut
                        have S6 := S5.keep k6
                        replace p0 := p0.keep k6
                        replace p1 := p1.keep k6
                        replace p2 := p2.keep k6
                        replace p3 := p3.keep k6
                        replace hT := hT.kept k6
                        clear S5 p4 hU HP HQ c3 c4 KD k6
                        have c3 := p3.cell
                        have c2 := p2.cell
                        go_wp2_with fail
                        refine (inter_at _ _ ts zs _ hT S6.c (by rw [HI1.out.2]; omega) (by rw [HN.out.2.2]; omega) HI1.out.1.canon HCZ.out).mono ?_
                        rintro e w7 ⟨la, o, lc, ls, rfl, ho, hL, hI, k7⟩
                        have HI3 : Hid (IsInter ls ts zs ∧ ls.length = o) := ⟨hI, ho⟩
                        have q2 : o ≤ p := by have := hI.len.1; rw [ho, HI1.out.2] at this; exact this
                        clear hI ho c3 c2
                        go_wp2_with fail
                        refine (words_any _ _).mono ?_
                        rintro e V8 ⟨rfl, k8⟩
                        have S8 := S6.keep (k7.trans k8)
                        replace p0 := p0.keep (k7.trans k8)
                        replace p1 := p1.keep (k7.trans k8)
                        replace p2 := p2.keep (k7.trans k8)
                        replace hL := hL.kept k8
                        clear S6 p3 hT k7 k8
                        go_upto_region 35 with fail
                        have HP : Hid (∀ W', Kept V8 W' → W'.cell? ⟨H0, 0, none⟩ = some (.slice aA n cA) ∧ W'.cell? ⟨H1, 0, none⟩ = some (.slice aB m cB) ∧ W'.cell? ⟨H2, 0, none⟩ = some (.slice aC l cC)) := fun W' k => ⟨(p0.keep k).cell, (p1.keep k).cell, (p2.keep k).cell⟩
                        have c0 := p0.cell
                        have c1 := p1.cell
                        have c2 := p2.cell
                        have KD : Kept V8 V8.drew := (Kept.refl _).drew
                        go_cut [16] from 19 (fun t wc => (∃ a c, t = .slice a o c ∧ Words wc (.slice a o c) ls) ∧ Kept V8 wc)
                        case first =>
                          as_aux_lemma =>
                            go_region_with (first
                              | (go_at_call_of 8 (Value.slice aC l cC); refine (inter_at _ _ ys zs _ ?_ ?_ ?_ ?_ ?_ ?_).mono ?_; exact (S8.keep KD).b; exact (S8.keep KD).c; exact (by rw [HN.out.2.1]; omega); exact (by rw [HN.out.2.2]; omega); exact HCY.out; exact HCZ.out; rintro e wq ⟨qa, qn, qc, qs, rfl, hqn, hq, hIq, kq⟩; replace kq := KD.trans kq; obtain ⟨d0, d1, d2⟩ := HP.out wq kq)
                              | (go_at_call_of 8 (Value.slice aA n cA); refine (inter_at _ _ xs qs _ ?_ ?_ ?_ ?_ ?_ ?_).mono ?_; exact (S8.keep kq).a; exact hq; exact (by rw [HN.out.1]; omega); exact (by have h1 := hIq.len.1; rw [HN.out.2.1] at h1; omega); exact HCX.out; exact hIq.canon; rintro e wr ⟨fa, fn, fc, rs, rfl, hfn, hf, hIf, kf⟩; have er := inter_assoc HI1.out.1 HI3.out.1 hIq hIf; rw [er] at hf hfn; have en := hfn.symm.trans HI3.out.2; rw [en] at hf ⊢; replace kf := kq.trans kf)
                              | (go_at_call 6; refine (words_any _ _).mono ?_; rintro e wz ⟨rfl, kz⟩; replace hf := hf.kept kz; replace kf := kf.trans kz))
                            all_goals (go_wp2_with fail; go_meet; exact ⟨⟨_, _, rfl, hf⟩, kf⟩)
                        case rest =>
                          rename World => V9
                          obtain ⟨⟨fa, fc, rfl, hF⟩, k9⟩ := hcut
                          have S9 := S8.keep k9
                          replace hL := hL.kept k9
                          clear S8 p0 p1 p2 HP c0 c1 c2 KD k9
                          go_wp2_with fail
                          refine (same_any _ _ ls _ hL hF (by rw [HI3.out.2]; omega)).mono ?_
                          rintro e V10 ⟨rfl, k10⟩
                          have S10 := S9.keep k10
                          replace hL := hL.kept k10
                          clear S9 hF k10
                          go_wp2_with fail
                          refine (max_any m l _).mono ?_
                          rintro e V11 ⟨rfl, rfl⟩
                          have hq1 : m ≤ Nat.max m l := Nat.le_max_left _ _
                          have hq3 : Nat.max m l ≤ 131072 := Nat.max_le.2 ⟨by omega, by omega⟩
                          generalize Nat.max m l = q0 at hq1 hq3 ⊢
                          go_wp2_with fail
                          refine (max_any n q0 _).mono ?_
                          rintro e V12 ⟨rfl, rfl⟩
                          have hq4 : n ≤ Nat.max n q0 := Nat.le_max_left _ _
                          have hq5 : Nat.max n q0 ≤ 131072 := Nat.max_le.2 ⟨by omega, by omega⟩
                          generalize Nat.max n q0 = q at hq4 hq5 ⊢
                          go_wp2_with fail
                          refine (canon_any _ ls q _ hL HI3.out.1.canon (by rw [HI3.out.2]; omega) (by omega)).mono ?_
                          rintro e V13 ⟨rfl, rfl⟩
                          obtain ⟨Q, hQ⟩ : ∃ Q, 64 * q = Q := ⟨_, rfl⟩
                          have hQ2 : (64 : Int) * (q : Int) = (Q : Int) := by omega
                          have hQ3 : Q ≤ 8388608 := by omega
                          have HLO : Hid (ls.length ≤ 1048576) := by show _ ≤ _; rw [HI3.out.2]; omega
                          have HT : Hid (Words V13 (.slice la o lc) ls) := hL
                          have HS : Hid (St w' V13 (.slice aA n cA) (.slice aB m cB) (.slice aC l cC) xs ys zs) := S10
                          clear hL S10 hq1 hq3 hq4 hQ q1 q2
                          go_wp2_with fail
                          go_loopw [18] (fun i wr => ∃ k : Nat, k ≤ Q ∧ i = .int .i64 k ∧ wr = V13) (fun i _ => Q - (intOf i).toNat)
                          case atStart => exact ⟨0, by omega, rfl, rfl⟩
                          case round =>
                            obtain ⟨k, hk, rfl, rfl⟩ := hrel
                            by_cases hlt : k < Q
                            · have hh := inter_has3 HI1.out.1 HI3.out.1 k
                              have b1 : (k : Int) < Q := by omega
                              go_wp2_with fail
                              refine (has_any _ ls k _ HT.out (by omega) HLO.out).mono ?_
                              rintro e w9 ⟨rfl, rfl⟩
                              rw [hh]
                              clear hh
                              go_wp2_with fail
                              refine (has_any _ xs k _ HS.out.a (by omega) (by rw [HN.out.1]; omega)).mono ?_
                              rintro e w10 ⟨rfl, rfl⟩
                              cases hasB xs k
                              · rw [Bool.false_and, Bool.false_and]
                                go_wp2_with fail
                                go_roundw
                                case rel => exact ⟨k + 1, by omega, by go_num, by trivial⟩
                                case measure => simp [intOf]; omega
                              · rw [Bool.true_and]
                                go_wp2_with fail
                                refine (has_any _ ys k _ HS.out.b (by omega) (by rw [HN.out.2.1]; omega)).mono ?_
                                rintro e w11 ⟨rfl, rfl⟩
                                cases hasB ys k
                                · rw [Bool.false_and]
                                  go_wp2_with fail
                                  go_roundw
                                  case rel => exact ⟨k + 1, by omega, by go_num, by trivial⟩
                                  case measure => simp [intOf]; omega
                                · rw [Bool.true_and]
                                  go_wp2_with fail
                                  refine (has_any _ zs k _ HS.out.c (by omega) (by rw [HN.out.2.2]; omega)).mono ?_
                                  rintro e w12 ⟨rfl, rfl⟩
                                  cases hasB zs k
                                  · go_wp2_with fail
                                    go_roundw
                                    case rel => exact ⟨k + 1, by omega, by go_num, by trivial⟩
                                    case measure => simp [intOf]; omega
                                  · go_wp2_with fail
                                    go_roundw
                                    case rel => exact ⟨k + 1, by omega, by go_num, by trivial⟩
                                    case measure => simp [intOf]; omega
                            · have ek : Q = k := by omega
                              subst ek
                              go_wp2_with fail
                              go_ret
                              exact ⟨rfl, HS.out.k.below⟩
end Go.Proofs.Qxb6627537a
