import Derived.Test.Qxb6626088aInv4
namespace Go.Proofs.Qxb6626088a
open Go.RowKit

theorem ok4 (a : Option Addr) (bk off len cap : Nat) (zs : List Int) (w : World) (hl : len ≤ 65536) (ha : 0 < len → a = some ⟨bk, off, none⟩)
    (hc : ∀ i, i < len → w.cell? ⟨bk, off + i, none⟩ = some (.int .i64 (zs.getD i 0))) (hbk : 0 < len → bk < w.heap.size) :
    Calls Try.prog 14 #[.slice a len cap] w (OkPost zs len w) := by
  by_cases h0 : len = 0
  · subst h0
    refine (ok_zero a cap w).mono ?_
    rintro e w' ⟨rfl, rfl⟩
    exact ⟨true, rfl, fun _ => ⟨fun h => by omega, fun k hk => by omega, fun i j _ hj => by omega⟩, ⟨rfl, rfl, rfl, Nat.le_refl _, fun _ _ _ => rfl⟩⟩
  · obtain rfl := ha (by omega)
    exact ok_any bk off len cap zs w hl (by omega) hc (hbk (by omega))

def jP (n : Nat) (o : Nat → Nat) (m : Nat) : Nat := if m = n + 1 then 0 else path n o m
def jQ (n : Nat) (o : Nat → Nat) (m : Nat) : Nat := if m = n + 1 then n else path n o (n - m)
theorem jP_at (n : Nat) (o : Nat → Nat) (m : Nat) (h : m ≤ n) : jP n o m = path n o m := if_neg (by omega)
theorem jQ_at (n : Nat) (o : Nat → Nat) (m : Nat) (h : m ≤ n) : jQ n o m = path n o (n - m) := if_neg (by omega)
theorem jP_end (n : Nat) (o : Nat → Nat) : jP n o (n + 1) = 0 := if_pos rfl
theorem jQ_end (n : Nat) (o : Nat → Nat) : jQ n o (n + 1) = n := if_pos rfl
theorem path_end (n : Nat) (o : Nat → Nat) : path n o n = n := if_neg (by omega)
theorem path_at (n : Nat) (o : Nat → Nat) (m : Nat) (h : m < n) : path n o m = o m := if_pos h
theorem Chained.jP_le {n : Nat} {o : Nat → Nat} {P N : Nat → Int} (h : Chained n o P N) (m : Nat) (hm : m ≤ n + 1) : jP n o m ≤ n := by
  unfold jP
  split
  · omega
  · exact h.le m (by omega)
theorem Chained.jQ_le {n : Nat} {o : Nat → Nat} {P N : Nat → Int} (h : Chained n o P N) (m : Nat) : jQ n o m ≤ n := by
  unfold jQ
  split
  · omega
  · exact h.le _ (by omega)
theorem Chained.jP_next {n : Nat} {o : Nat → Nat} {P N : Nat → Int} (h : Chained n o P N) (m : Nat) (hm : m ≤ n) : N (path n o m) = (jP n o (m + 1) : Nat) := by
  rw [h.next m hm]
  unfold jP
  by_cases e : m = n
  · rw [if_pos e, if_pos (by omega)]
  · rw [if_neg e, if_neg (by omega)]
theorem Chained.jQ_next {n : Nat} {o : Nat → Nat} {P N : Nat → Int} (h : Chained n o P N) (m : Nat) (hm : m ≤ n) : P (path n o (n - m)) = (jQ n o (m + 1) : Nat) := by
  rw [h.prev (n - m) (by omega)]
  unfold jQ
  by_cases e : m = n
  · rw [if_pos (by omega), if_pos (by omega)]
  · rw [if_neg (by omega), if_neg (by omega), show n - m - 1 = n - (m + 1) by omega]

set_option maxHeartbeats 3200000 in
set_option maxRecDepth 100000 in
theorem law4 (a : Option Addr) (bk off len cap : Nat) (zs : List Int) (s : Int) (hh : Bool) (w : World) (hl : len ≤ 65536) (ha : 0 < len → a = some ⟨bk, off, none⟩)
    (hc : ∀ i, i < len → w.cell? ⟨bk, off + i, none⟩ = some (.int .i64 (zs.getD i 0))) (hbk : 0 < len → bk < w.heap.size) :
    Calls Try.prog 4 #[.slice a len cap, .int .i64 s, .bool hh] w fun e w' => e = .returned (.bool true) ∧ Below w.heap.size w w' := by
  obtain ⟨i3, hi3, y0, y1, y2⟩ := info_parts Try.info3
  obtain ⟨i27, hi27, x0, x1, x2⟩ := info_parts Try.info27
  have hptr := neq_same
  have HC : Hid (∀ i, i < len → w.cell? ⟨bk, off + i, none⟩ = some (.int .i64 (zs.getD i 0))) := hc
  have HA : Hid (0 < len → a = some ⟨bk, off, none⟩) := ha
  have HB : Hid (0 < len → bk < w.heap.size) := hbk
  clear hc ha hbk
  go_enter Try.func4, Try.ntmps4
  go_wp2_with fail
  refine (bytes13_yes _ _ _ _ _ _ (by omega)).mono ?_
  rintro e w' ⟨rfl, rfl⟩
  go_wp2_with fail
  refine (ok4 a bk off len cap zs _ hl HA.out HC.out HB.out).mono ?_
  rintro e w1 ⟨r, rfl, hok, f1⟩
  cases r
  · go_wp2_with fail
    go_ret
    exact ⟨rfl, f1.below (Nat.le_refl _) (fun _ h => h.elim)⟩
  · have hOK := hok rfl
    clear hok
    obtain ⟨o, ho⟩ : ∃ o : Nat → Nat, ∀ k, k < len → zs.getD k 0 = (o k : Int) := ⟨fun k => (zs.getD k 0).toNat, fun k hk => by have := hOK.range k hk; show zs.getD k 0 = ((zs.getD k 0).toNat : Int); omega⟩
    have olt : ∀ k, k < len → o k < len := fun k hk => by have := hOK.range k hk; rw [ho k hk] at this; omega
    have oinj : ∀ i j, i < len → j < len → o i = o j → i = j := by
      intro i j hi hj e
      rcases Nat.lt_trichotomy i j with h | h | h
      · exact (hOK.apart i j h hj (by rw [ho i hi, ho j hj, e])).elim
      · exact h
      · exact (hOK.apart j i h hi (by rw [ho i hi, ho j hj, e])).elim
    have ofirst : 0 < len → o 0 = 0 := fun h => by have := hOK.first h; rw [ho 0 h] at this; omega
    have HCW : Hid (∀ i, i < len → w'.cell? ⟨bk, off + i, none⟩ = some (.int .i64 (o i : Int))) := fun i hi => by
      rw [← ho i hi]; exact HC.out i hi
    have HC : Hid (∀ i, i < len → w1.cell? ⟨bk, off + i, none⟩ = some (.int .i64 (o i : Int))) := fun i hi => by
      rw [f1.cell _ (HB.out (by omega)), ← ho i hi]; exact HC.out i hi
    have HO : Hid ((∀ k, k < len → o k < len) ∧ (∀ i j, i < len → j < len → o i = o j → i = j) ∧ (0 < len → o 0 = 0)) := ⟨olt, oinj, ofirst⟩
    have HB1 : Hid (0 < len → bk < w1.heap.size) := fun h => Nat.lt_of_lt_of_le (HB.out h) f1.size
    clear olt oinj ofirst ho hOK
    go_wp2_with (at_make; first | refine wpList_make_row _ rfl (.tmp 48) (.tmp 48) 38 rfl 3 i3 (.int .i64 0) Try.underlying38 hi3 y0 y1 rfl .i64 .i64 len rfl rfl (by rw [y2]; omega) (by omega) ?_ | refine wpList_make_row _ rfl (.tmp 50) (.tmp 50) 38 rfl 3 i3 (.int .i64 0) Try.underlying38 hi3 y0 y1 rfl .i64 .i64 len rfl rfl (by rw [y2]; omega) (by omega) ?_)
    have hI := LInv.start o w1 len
    generalize (w1.alloc (.cells (madeCells #[.int .i64 0] len) 3)).alloc (.cells (madeCells #[.int .i64 0] len) 3) = w2 at hI ⊢
    generalize hNB : w1.heap.size + 1 = NB at hI ⊢
    generalize hPB : w1.heap.size = PB at hI ⊢
    clear hNB hPB
    go_loopw [10] (fun i wr => ∃ k : Nat, k ≤ len ∧ i = .int .i64 k ∧ ∃ P N, LInv o w1 wr PB NB len k P N) (fun i _ => len - (intOf i).toNat)
    case atStart => exact ⟨0, by omega, rfl, _, _, hI⟩
    case round =>
      clear hI
      obtain ⟨k, hk, rfl, P, N, hI⟩ := hrel
      by_cases hlt : k < len
      · obtain rfl := HA.out (by omega)
        have h0 : 0 < len := by omega
        have hbk := HB1.out h0
        have m1 : (k + 1) % len < len := Nat.mod_lt _ h0
        have m2 : (k + len - 1) % len < len := Nat.mod_lt _ h0
        have c0 := HC.out k hlt
        have c1 := HC.out _ m1
        have c2 := HC.out _ m2
        rw [← hI.fr.cell _ (by exact hbk)] at c0 c1 c2
        have hok := HO.out.1 k hlt
        have p0 := hI.p.cell hok
        have p1 := hI.p.frozen (o k)
        have q0 := hI.q.cell hok
        have q1 := hI.q.frozen (o k)
        have hS := hI.step hlt HO.out.2.1
        have ne := hI.ne
        have HX : Hid (∃ x, x = o k) := ⟨_, rfl⟩
        generalize o k = x at *
        generalize o ((k + 1) % len) = y at *
        generalize o ((k + len - 1) % len) = z at *
        have b1 : (k : Int) < len := by omega
        have b2 : (x : Int) < len := by omega
        have n1 : bk ≠ NB := by have := hI.lN; omega
        have n2 : bk ≠ PB := by have := hI.lP; omega
        have z1 : (0 : Int) ≤ ((k : Int) + 1) % len := Int.emod_nonneg _ (by omega)
        have z2 : ((k : Int) + 1) % len < len := Int.emod_lt_of_pos _ (by omega)
        have z3 : (0 : Int) ≤ ((k : Int) + len - 1) % len := Int.emod_nonneg _ (by omega)
        have z4 : ((k : Int) + len - 1) % len < len := Int.emod_lt_of_pos _ (by omega)
        clear hI
        go_wp2_with fail
        go_roundw
        case rel => exact ⟨k + 1, by omega, by go_num, _, _, hS⟩
        case measure => simp [intOf]; omega
      · have ek : len = k := by omega
        subst ek
        clear hlt
        rename World => wA
        have hCh : Chain len o P N := ⟨HO.out.1, HO.out.2.1, HO.out.2.2, hI.hp, hI.hq⟩
        have HCh : Hid (Chain len o P N) := hCh
        clear hCh
        have hF2 : Fr w' wA (fun _ => False) := f1.trans hI.fr (fun _ _ h => h)
        go_wp2_with (at_make; refine wpList_make_row _ rfl (.tmp 83) (.tmp 83) 26 rfl 27 i27 (.pointer none) Try.underlying26 hi27 x0 x1 rfl .i64 .i64 len rfl rfl (by rw [x2]; omega) (by omega) ?_)
        have hJ := EInv.start wA len
        generalize wA.alloc (.cells (madeCells #[.pointer none] len) 27) = w3 at hJ ⊢
        generalize hE : wA.heap.size = E at hJ ⊢
        clear hE
        go_loopw [13] (fun i wq => ∃ k : Nat, k ≤ len ∧ i = .int .i64 k ∧ ∃ b, EInv wA wq E len k b) (fun i _ => len - (intOf i).toNat)
        case atStart => exact ⟨0, by omega, rfl, _, hJ⟩
        case round =>
          clear hJ
          obtain ⟨k, hk2, rfl, b, hJ⟩ := hrel
          by_cases hlt : k < len
          · have b1 : (k : Int) < len := by omega
            go_wp2_with fail
            refine (new_any _ _ _).mono ?_
            rintro e w4 ⟨rfl, hE4, hF4, _⟩
            obtain ⟨⟨ov, o1⟩, o2⟩ := hJ.open hF4 hlt
            have hS := hJ.step hF4 hE4
            clear hJ hI
            go_wp2_with fail
            go_roundw
            case rel => exact ⟨k + 1, by omega, by go_num, _, hS⟩
            case measure => simp [intOf]; omega
          · have ek : len = k := by omega
            subst ek
            clear hlt
            obtain ⟨f, hf, hfb⟩ := hJ.es
            have hes := hf.congr hfb
            have rp := hI.p.of_block (hJ.fr.block _ hI.p.lt id)
            have rq := hI.q.of_block (hJ.fr.block _ hI.q.lt id)
            have sz : w'.heap.size ≤ wr.heap.size := Nat.le_trans hF2.size hJ.fr.size
            clear hI hf hfb
            go_wp2_with fail
            refine (links_any w'.heap.size E PB NB len b P N _ hl sz hes rp rq).mono ?_
            rintro e w5 ⟨L, g, rfl, hLd⟩
            clear rp rq
            go_wp2_with fail
            refine (new_any _ _ _).mono ?_
            rintro e w6 ⟨rfl, hE6, hF6, _⟩
            obtain ⟨ps, hln, hlp, hpl⟩ := hLd.line
            have hl6 := hln.keep (w' := w6) (fun k hk _ => hF6.block k hk id)
            have sz6 : w'.heap.size ≤ w6.heap.size := Nat.le_trans sz (Nat.le_trans hLd.fr.size hF6.size)
            go_wp2_with fail
            refine (push4 w'.heap.size L g len w5.heap.size len ps o b P N s hh _ hl6 ⟨hlp, hpl⟩ HCh.out (by omega) hE6 sz6).mono ?_
            rintro e w7 ⟨rfl, g', cap', ps', P', N', l7, p7, c7, e7, f7⟩
            have h4 := F4.start hF2 hJ hes hLd hF6 l7 p7 e7 f7
            have HBB : Hid ((fun i => if i = len then w5.heap.size else b i) len = w5.heap.size) := if_pos rfl
            clear l7 p7 e7 f7 hLd hJ hes hF6 hE6 hln hlp hpl hl6 sz sz6
            generalize (fun i => if i = len then w5.heap.size else b i) = bb at h4 HBB
            generalize w5.heap.size = eb at HBB ⊢
            have HC7 : Hid (Chained len o P' N') := c7
            clear c7
            go_wp2_with fail
            refine (len_any _ L _ (len + 1) cap' ps' _ h4.line).mono ?_
            rintro e w8 ⟨rfl, rfl⟩
            have pl : ps'[len]? = some (ptr eb, P' len, N' len) := by rw [← HBB.out]; exact h4.at'.2 len (by omega)
            have p0 : ps'[0]? = some (ptr (bb 0), ((len : Nat) : Int), N' 0) := by rw [← HC7.out.prev0]; exact h4.at'.2 0 (by omega)
            have he := h4.ents len (Nat.le_refl _)
            rw [HBB.out] at he
            go_wp2_with fail
            refine (last_gen _ L g' (len + 1) cap' len ps' _ h4.line (by omega) _ _ _ _ eb p0 pl).mono ?_
            rintro e w9 ⟨rfl, rfl⟩
            go_wp2_with fail
            refine (slot_any eb len false _ he).mono ?_
            rintro e w10 ⟨rfl, f10⟩
            have h5 := h4.keep f10
            clear h4 f10 he p0
            go_wp2_with fail
            go_loopw [18] (fun i wq => ∃ k : Nat, k ≤ len ∧ i = .int .i64 k ∧ F4 w' wq L g' cap' E len ps' bb P' N') (fun i _ => len - (intOf i).toNat)
            case atStart => exact ⟨0, by omega, rfl, h5⟩
            case round =>
              clear h5
              obtain ⟨k, hk3, rfl, h5⟩ := hrel
              by_cases hlt : k < len
              · have b1 : (k : Int) < len := by omega
                have pk := h5.at'.2 k (by omega)
                go_wp2_with fail
                refine (place_gen _ L g' (len + 1) cap' k ps' _ h5.line (by omega) _ _ _ pk).mono ?_
                rintro e w11 ⟨rfl, f11⟩
                have h6 := h5.keep f11
                have cE := h6.es.cell hlt
                have he := h6.ents k (by omega)
                clear h5 f11 pk
                generalize bb k = bx at *
                generalize P' k = p0
                generalize N' k = q0
                go_wp2_with fail
                refine (slot_any bx k false _ he).mono ?_
                rintro e w12 ⟨rfl, f12⟩
                have h7 := h6.keep f12
                clear h6 f12 he cE
                go_wp2_with fail
                go_roundw
                case rel => exact ⟨k + 1, by omega, by go_num, h7⟩
                case measure => simp [intOf]; omega
              · have ek : len = k := by omega
                subst ek
                clear hlt
                go_wp2_with fail
                go_loopw [24, 25] (fun jj kk wq => ∃ m : Nat, m ≤ len + 1 ∧ kk = .int .i64 m ∧ jj = .int .i64 (jP len o m : Nat) ∧ F4 w' wq L g' cap' E len ps' bb P' N') (fun _ kk _ => len + 1 - (intOf kk).toNat)
                case atStart => exact ⟨0, by omega, rfl, by rw [jP_at _ _ _ (Nat.zero_le _), HC7.out.zero]; rfl, h5⟩
                case round =>
                  clear h5
                  obtain ⟨m, hm, rfl, rfl, h5⟩ := hrel
                  by_cases hml : m < len
                  · have e1 : jP len o m = o m := by rw [jP_at _ _ _ (by omega), path_at _ _ _ hml]
                    rw [e1]
                    have pk := h5.at'.2 (o m) (by have := HO.out.1 m hml; omega)
                    have hnx := HC7.out.jP_next m (by omega)
                    rw [path_at _ _ _ hml] at hnx
                    rw [hnx] at pk
                    have hle := HC7.out.jP_le (m + 1) (by omega)
                    have hol := HO.out.1 m hml
                    obtain rfl := HA.out (by omega)
                    have c0 := HCW.out m hml
                    rw [← h5.low.cell (HB.out (by omega))] at c0
                    have b1 : (m : Int) < len := by omega
                    have b2 : (m : Int) ≤ len := by omega
                    have b3 : ((m : Int) == len) = false := by simp; omega
                    clear hnx e1
                    generalize hJ : jP len o (m + 1) = nx at pk hle
                    have HJ : Hid (jP len o (m + 1) = nx) := hJ
                    generalize o m = x at *
                    clear hJ
                    have b4 : ¬ ((nx : Int) < 0) := by omega
                    have b5 : (0 : Int) ≤ nx := by omega
                    have b6 : ¬ len < nx := by omega
                    go_wp2_with fail
                    refine (place_gen _ L g' (len + 1) cap' x ps' _ h5.line (by omega) _ _ _ pk).mono ?_
                    rintro e w11 ⟨rfl, f11⟩
                    have h6 := h5.keep f11
                    clear h5 f11 pk c0
                    generalize bb x = bx
                    generalize P' x = p0
                    go_wp2_with fail
                    go_roundw
                    case rel => exact ⟨m + 1, by omega, by go_num, by rw [HJ.out], h6⟩
                    case measure => simp [intOf]; omega
                  · by_cases hml2 : m = len
                    · obtain rfl := hml2
                      have e1 : jP m o m = m := by rw [jP_at _ _ _ (Nat.le_refl _), path_end]
                      rw [e1]
                      have pk := h5.at'.2 m (by omega)
                      have hnx := HC7.out.jP_next m (Nat.le_refl _)
                      rw [path_end, jP_end] at hnx
                      rw [hnx, HBB.out] at pk
                      clear hnx e1 hml
                      go_wp2_with fail
                      refine (place_gen _ L g' (m + 1) cap' m ps' _ h5.line (by omega) _ _ _ pk).mono ?_
                      rintro e w11 ⟨rfl, f11⟩
                      have h6 := h5.keep f11
                      clear h5 f11 pk
                      generalize P' m = p0
                      go_wp2_with fail
                      go_roundw
                      case rel => exact ⟨m + 1, by omega, by go_num, by rw [jP_end]; rfl, h6⟩
                      case measure => simp [intOf]
                    · obtain rfl : m = len + 1 := by omega
                      rw [show ((jP len o (len + 1) : Nat) : Int) = 0 by rw [jP_end]; rfl]
                      have b1 : ¬ ((len : Int) + 1 ≤ len) := by omega
                      clear hml hml2 hm
                      go_wp2_with fail
                      go_loopw [24, 30] (fun jj kk wq => ∃ m : Nat, m ≤ len + 1 ∧ kk = .int .i64 m ∧ jj = .int .i64 (jQ len o m : Nat) ∧ F4 w' wq L g' cap' E len ps' bb P' N') (fun _ kk _ => len + 1 - (intOf kk).toNat)
                      case atStart => exact ⟨0, by omega, rfl, by rw [jQ_at _ _ _ (Nat.zero_le _), Nat.sub_zero, path_end], h5⟩
                      case round =>
                        clear h5
                        obtain ⟨m, hm, rfl, rfl, h5⟩ := hrel
                        by_cases hml : m ≤ len
                        · have pk := h5.at'.2 (path len o (len - m)) (by have := HC7.out.le (len - m) (by omega); omega)
                          rw [HC7.out.jQ_next m hml] at pk
                          have hle := HC7.out.jQ_le (m + 1)
                          have hxl := HC7.out.le (len - m) (by omega)
                          have HX : Hid (path len o (len - m) = path len o (len - m)) := rfl
                          rw [jQ_at _ _ _ hml]
                          generalize hJ : jQ len o (m + 1) = nx at pk hle
                          have HJ : Hid (jQ len o (m + 1) = nx) := hJ
                          clear hJ HX
                          have b2 : (m : Int) ≤ len := by omega
                          have b4 : ¬ ((nx : Int) < 0) := by omega
                          have b5 : (0 : Int) ≤ nx := by omega
                          have b6 : ¬ len < nx := by omega
                          by_cases h0 : m = 0
                          · subst h0
                            simp only [Nat.sub_zero, path_end] at pk hxl ⊢
                            go_wp2_with fail
                            refine (place_gen _ L g' (len + 1) cap' len ps' _ h5.line (by omega) _ _ _ pk).mono ?_
                            rintro e w11 ⟨rfl, f11⟩
                            have h6 := h5.keep f11
                            clear h5 f11 pk
                            generalize bb len = bx at *
                            generalize N' len = q0 at *
                            go_wp2_with fail
                            go_roundw
                            case rel => exact ⟨1, by omega, by go_num, by rw [← HJ.out], h6⟩
                            case measure => simp [intOf]
                          · obtain rfl := HA.out (by omega)
                            have hlt : len - m < len := by omega
                            have c0 := HCW.out (len - m) hlt
                            rw [← h5.low.cell (HB.out (by omega))] at c0
                            have HXO : Hid (path len o (len - m) = o (len - m)) := path_at _ _ _ hlt
                            rw [HXO.out] at pk hxl ⊢
                            have b1 : (0 : Int) < m := by omega
                            generalize o (len - m) = x at *
                            go_wp2_with fail
                            refine (place_gen _ L g' (len + 1) cap' x ps' _ h5.line (by omega) _ _ _ pk).mono ?_
                            rintro e w11 ⟨rfl, f11⟩
                            have h6 := h5.keep f11
                            clear h5 f11 pk c0
                            generalize bb x = bx
                            generalize N' x = q0
                            go_wp2_with fail
                            go_roundw
                            case rel => exact ⟨m + 1, by omega, by go_num, by rw [HJ.out], h6⟩
                            case measure => simp [intOf]; omega
                        · obtain rfl : m = len + 1 := by omega
                          rw [jQ_end]
                          have b1 : ¬ ((len : Int) + 1 ≤ len) := by omega
                          clear hml hm
                          go_wp2_with fail
                          go_ret
                          exact ⟨rfl, h5.low⟩
end Go.Proofs.Qxb6626088a
