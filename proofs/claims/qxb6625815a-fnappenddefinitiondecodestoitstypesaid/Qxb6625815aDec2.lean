import Derived.Test.Qxb6625815aDec
namespace Go.Proofs.Qxb6625815a
open Go.RowKit

theorem Try.info9 : (Try.prog.info? 9).map (fun i => (i.zero, i.size, i.bytes)) = some (some (.string ⟨#[]⟩), 1, 16) := by kernel_rfl
theorem Try.info2 : (Try.prog.info? 2).map (fun i => (i.zero, i.size, i.bytes)) = some (some (.int .i64 0), 1, 8) := by kernel_rfl

/-- The cells of 'd', two rows in its last fields. -/
def dcells (id : Int) (nm : ByteArray) (fn fi : Value) : Array Value := #[.int .i64 (-id), .string nm, .int .i64 id, .int .i64 2, .int .i64 0, .int .i64 0, .int .i64 0, fn, fi]

structure DF (w : World) (H : Nat) (id : Int) (nm : ByteArray) (fn fi : Value) (ns : List ByteArray) (is : List Int) : Prop where
  blk : w.heap[H + 1]? = some (.cells (dcells id nm fn fi) 38 (0, 0))
  res : ∃ cs, cs.size = 9 ∧ w.heap[H]? = some (.cells cs 38 (0, 0))
  on : w.ownsRow (H + 3) 9 1 fn ns.length (ns.map Value.string)
  oi : w.ownsRow (H + 3) 2 1 fi is.length (is.map (Value.int .i64))
  ne : fn.ownBlock = none ∨ fn.ownBlock ≠ fi.ownBlock
  sz : H + 3 ≤ w.heap.size

theorem setCell_blk (w : World) (B o : Nat) (v : Value) (cs : Array Value) (t : TypeId) (fr : Nat × Nat) (h : w.heap[B]? = some (.cells cs t fr)) : (w.setCell ⟨B, o, none⟩ v).heap[B]? = some (.cells (cs.setIfInBounds o v) t fr) := by
  obtain ⟨hlt, h'⟩ := Array.getElem?_eq_some_iff.1 h
  show (w.heap.modify B _)[B]? = _
  rw [Array.getElem?_eq_getElem (by simpa using hlt), Array.getElem_modify_self, h']
  rfl

theorem DF.step0 {w w1 : World} {H g cap : Nat} {id : Int} {nm : ByteArray} {fn fi : Value} {ns : List ByteArray} {is : List Int} {s : ByteArray} (h : DF w H id nm fn fi ns is)
    (hown : w1.ownsRow (H + 3) 9 1 (.slice (some ⟨g, 0, none⟩) (ns.length + 1) cap) (ns.length + 1) (ns.map Value.string ++ [.string s]))
    (hgrow : (w.alloc (.cells #[.string s] 9)).grownBy w1 fn.ownBlock) (hat : fn.ownBlock = some g ∨ g = w.heap.size + 1) :
    w1.heap[H + 1]? = some (.cells (dcells id nm fn fi) 38 (0, 0)) ∧ DF (w1.setCell ⟨H + 1, 7, none⟩ (.slice (some ⟨g, 0, none⟩) (ns.length + 1) cap)) H id nm (.slice (some ⟨g, 0, none⟩) (ns.length + 1) cap) fi (ns ++ [s]) is ∧
      Below H w (w1.setCell ⟨H + 1, 7, none⟩ (.slice (some ⟨g, 0, none⟩) (ns.length + 1) cap)) := by
  have hs := h.sz
  have hgs := hgrow.size
  simp only [World.size_alloc] at hgs
  have keep : ∀ k, k < H + 3 → w1.heap[k]? = w.heap[k]? := fun k hk => by
    rw [hgrow.block k (by simp; omega) (fun e => by have := (h.on.lt k e.symm).1; omega), Below.heap_alloc _ _ _ (by omega)]
  have hb1 : w1.heap[H + 1]? = some (.cells (dcells id nm fn fi) 38 (0, 0)) := by rw [keep _ (by omega)]; exact h.blk
  have hoi : w1.ownsRow (H + 3) 2 1 fi is.length (is.map (Value.int .i64)) :=
    World.ownsRow.kept (h.oi.alloc _) hgrow (by rcases h.ne with e | e; · rw [e]; cases fi.ownBlock <;> simp
                                                · exact .inr (fun e' => e e'.symm))
  refine ⟨hb1, ⟨?_, ?_, ?_, ownsRow_setCell_below hoi (by simp) _, ?_, by simp [World.setCell]; omega⟩, ?_⟩
  · rw [setCell_blk _ _ _ _ _ _ _ hb1]; rfl
  · obtain ⟨cs, hc, hr⟩ := h.res
    exact ⟨cs, hc, by rw [Below.heap_setCell _ _ _ _ (by simp), keep _ (by omega)]; exact hr⟩
  · have := ownsRow_setCell_below hown (a := ⟨H + 1, 7, none⟩) (by simp) (.slice (some ⟨g, 0, none⟩) (ns.length + 1) cap)
    simpa using this
  · right
    intro e
    have e2 : fi.ownBlock = some g := e.symm
    rcases hat with hat | hat
    · rcases h.ne with h1 | h1
      · rw [h1] at hat; cases hat
      · exact h1 (hat.trans e2.symm)
    · have := (h.oi.lt g e2).2; omega
  · refine Below.setCell (p := ⟨H + 1, 7, none⟩) ?_ (Nat.le_succ H) _
    exact Below.grown ((Below.refl H w).alloc (by omega) _) hgrow (by simp; omega) (fun k e => by have := (h.on.lt k e).1; omega)

theorem DF.step1 {w w1 : World} {H g cap : Nat} {id : Int} {nm : ByteArray} {fn fi : Value} {ns : List ByteArray} {is : List Int} {x : Int} (h : DF w H id nm fn fi ns is)
    (hown : w1.ownsRow (H + 3) 2 1 (.slice (some ⟨g, 0, none⟩) (is.length + 1) cap) (is.length + 1) (is.map (Value.int .i64) ++ [.int .i64 x]))
    (hgrow : (w.alloc (.cells #[.int .i64 x] 2)).grownBy w1 fi.ownBlock) (hat : fi.ownBlock = some g ∨ g = w.heap.size + 1) :
    w1.heap[H + 1]? = some (.cells (dcells id nm fn fi) 38 (0, 0)) ∧ DF (w1.setCell ⟨H + 1, 8, none⟩ (.slice (some ⟨g, 0, none⟩) (is.length + 1) cap)) H id nm fn (.slice (some ⟨g, 0, none⟩) (is.length + 1) cap) ns (is ++ [x]) ∧
      Below H w (w1.setCell ⟨H + 1, 8, none⟩ (.slice (some ⟨g, 0, none⟩) (is.length + 1) cap)) := by
  have hs := h.sz
  have hgs := hgrow.size
  simp only [World.size_alloc] at hgs
  have keep : ∀ k, k < H + 3 → w1.heap[k]? = w.heap[k]? := fun k hk => by
    rw [hgrow.block k (by simp; omega) (fun e => by have := (h.oi.lt k e.symm).1; omega), Below.heap_alloc _ _ _ (by omega)]
  have hb1 : w1.heap[H + 1]? = some (.cells (dcells id nm fn fi) 38 (0, 0)) := by rw [keep _ (by omega)]; exact h.blk
  have hon : w1.ownsRow (H + 3) 9 1 fn ns.length (ns.map Value.string) := World.ownsRow.kept (h.on.alloc _) hgrow h.ne
  refine ⟨hb1, ⟨?_, ?_, ownsRow_setCell_below hon (by simp) _, ?_, ?_, by simp [World.setCell]; omega⟩, ?_⟩
  · rw [setCell_blk _ _ _ _ _ _ _ hb1]; rfl
  · obtain ⟨cs, hc, hr⟩ := h.res
    exact ⟨cs, hc, by rw [Below.heap_setCell _ _ _ _ (by simp), keep _ (by omega)]; exact hr⟩
  · have := ownsRow_setCell_below hown (a := ⟨H + 1, 8, none⟩) (by simp) (.slice (some ⟨g, 0, none⟩) (is.length + 1) cap)
    simpa using this
  · rcases h.ne with h1 | h1
    · exact .inl h1
    · right
      intro e
      have e2 : fn.ownBlock = some g := e
      rcases hat with hat | hat
      · exact h1 (e2.trans hat.symm)
      · have := (h.on.lt g e2).2; omega
  · refine Below.setCell (p := ⟨H + 1, 8, none⟩) ?_ (Nat.le_succ H) _
    exact Below.grown ((Below.refl H w).alloc (by omega) _) hgrow (by simp; omega) (fun k e => by have := (h.oi.lt k e).1; omega)

theorem below9 {H : Nat} {a w : World} {v0 v1 v2 v3 v4 v5 v6 v7 v8 : Value} (h : Below H a w) : Below H a (((((((((w.setCell ⟨H, 0, none⟩ v0).setCell ⟨H, 1, none⟩ v1).setCell ⟨H, 2, none⟩ v2).setCell ⟨H, 3, none⟩ v3).setCell ⟨H, 4, none⟩ v4).setCell ⟨H, 5, none⟩ v5).setCell ⟨H, 6, none⟩ v6).setCell ⟨H, 7, none⟩ v7).setCell ⟨H, 8, none⟩ v8) :=
  (Below.setCell (p := ⟨H, 8, none⟩) (Below.setCell (p := ⟨H, 7, none⟩) (Below.setCell (p := ⟨H, 6, none⟩) (Below.setCell (p := ⟨H, 5, none⟩) (Below.setCell (p := ⟨H, 4, none⟩) (Below.setCell (p := ⟨H, 3, none⟩) (Below.setCell (p := ⟨H, 2, none⟩) (Below.setCell (p := ⟨H, 1, none⟩) (Below.setCell (p := ⟨H, 0, none⟩) h (Nat.le_refl H) v0) (Nat.le_refl H) v1) (Nat.le_refl H) v2) (Nat.le_refl H) v3) (Nat.le_refl H) v4) (Nat.le_refl H) v5) (Nat.le_refl H) v6) (Nat.le_refl H) v7) (Nat.le_refl H) v8)
theorem owns9 {H n : Nat} {e : TypeId} {v : Value} {xs : List Value} {w : World} {v0 v1 v2 v3 v4 v5 v6 v7 v8 : Value} (h : w.ownsRow (H + 3) e 1 v n xs) : (((((((((w.setCell ⟨H, 0, none⟩ v0).setCell ⟨H, 1, none⟩ v1).setCell ⟨H, 2, none⟩ v2).setCell ⟨H, 3, none⟩ v3).setCell ⟨H, 4, none⟩ v4).setCell ⟨H, 5, none⟩ v5).setCell ⟨H, 6, none⟩ v6).setCell ⟨H, 7, none⟩ v7).setCell ⟨H, 8, none⟩ v8).ownsRow (H + 3) e 1 v n xs :=
  (ownsRow_setCell_below (a := ⟨H, 8, none⟩) (ownsRow_setCell_below (a := ⟨H, 7, none⟩) (ownsRow_setCell_below (a := ⟨H, 6, none⟩) (ownsRow_setCell_below (a := ⟨H, 5, none⟩) (ownsRow_setCell_below (a := ⟨H, 4, none⟩) (ownsRow_setCell_below (a := ⟨H, 3, none⟩) (ownsRow_setCell_below (a := ⟨H, 2, none⟩) (ownsRow_setCell_below (a := ⟨H, 1, none⟩) (ownsRow_setCell_below (a := ⟨H, 0, none⟩) h (by simp) v0) (by simp) v1) (by simp) v2) (by simp) v3) (by simp) v4) (by simp) v5) (by simp) v6) (by simp) v7) (by simp) v8)
theorem take_map_succ {α β : Type} (f : α → β) (l : List α) (k : Nat) (h : k < l.length) : (l.take (k + 1)).map f = (l.take k).map f ++ [f (l[k])] := by
  rw [List.take_succ_eq_append_getElem h, List.map_append]; rfl
theorem Bytes.below {w w' : World} {g o : Nat} {ps : List UInt8} (h : Bytes w g o ps) (hb : Below w.heap.size w w') : Bytes w' g o ps := fun j b hj => by
  have := h j b hj
  exact (hb.cell (World.block_lt_of_cell? w _ this)).trans this

theorem cell_one_alloc' (w : World) (v : Value) (t : TypeId) (H : Nat) (hH : w.heap.size = H) : ∀ j u, ([v] : List Value)[j]? = some u → (w.alloc (.cells #[v] t)).cell? ((⟨H, 0, none⟩ : Addr).add j) = some u := by
  subst hH; exact cell_one_alloc w v t

theorem DF.start (w : World) (id : Int) (nm : ByteArray) (cs cn : Array Value) (hcs : cs.size = 9) :
    DF (((w.alloc (.cells cs 38)).alloc (.cells (dcells id nm (.slice none 0 0) (.slice none 0 0)) 38)).alloc (.cells cn 38)) w.heap.size id nm (.slice none 0 0) (.slice none 0 0) [] [] := by
  refine ⟨?_, ⟨cs, hcs, ?_⟩, World.ownsRow_nil _ _ _ _, World.ownsRow_nil _ _ _ _, .inl rfl, by simp⟩
  · rw [Below.heap_alloc _ _ _ (by simp)]
    have := heap_alloc_new (w.alloc (.cells cs 38)) (.cells (dcells id nm (.slice none 0 0) (.slice none 0 0)) 38)
    simpa using this
  · rw [Below.heap_alloc _ _ _ (by simp; omega), Below.heap_alloc _ _ _ (by simp)]
    exact heap_alloc_new w _

set_option maxHeartbeats 3200000 in
set_option maxRecDepth 100000 in
/-- A struct type with fields. -/
theorem dec2 (g o c N : Nat) (ps : List UInt8) (w : World) (hb : Bytes w g o ps) (id : Int) (nm : ByteArray) (i0 : 1 ≤ id) (i1 : id ≤ 9223372036854775807) (fs : List (ByteArray × Int)) (n : Nat) (hn : fs.length = n) (hn0 : 1 ≤ n) (hn1 : n ≤ 1048576) (hN : N ≤ 200000000)
    (P : Nat → Nat) (p1 p2 p3 p4 p5 p7 : Nat) (hP : P 0 + n ≤ N)
    (R1 : RI g o c N ps 0 (-id) p1) (R2 : RU g o c N ps p1 3 p2) (R3 : RU g o c N ps p2 1 p3) (R4 : RN g o c N ps p3 nm id p4) (R5 : RU g o c N ps p4 1 p5) (R6 : RU g o c N ps p5 n (P 0))
    (RR : Hid (∀ k (hk : k < fs.length), RN g o c N ps (P k) (fs[k]).1 (fs[k]).2 (P (k + 1)))) (R7 : RU g o c N ps (P n) 0 p7) (R8 : RU g o c N ps p7 0 N) :
    Calls Try.prog 11 #[.slice (some ⟨g, o, none⟩) N c] w fun e w' => ∃ fn fi B, e = .returned (.tuple #[.agg #[.int .i64 (-id), .string nm, .int .i64 id, .int .i64 2, .int .i64 0, .int .i64 0, .int .i64 0, fn, fi], .bool true]) ∧ Below w.heap.size w w' ∧
      w'.ownsRow B 9 1 fn n (fs.map fun f => Value.string f.1) ∧ w'.ownsRow B 2 1 fi n (fs.map fun f => Value.int .i64 f.2) := by
  obtain ⟨j9, hi9, hz90, hz91, hz92⟩ := info_parts Try.info9
  obtain ⟨j2, hi2, hz20, hz21, hz22⟩ := info_parts Try.info2
  have HB : Hid (∀ o1 o2 o3, Bytes (((w.alloc o1).alloc o2).alloc o3) g o ps) := fun o1 o2 o3 => ((hb.alloc o1).alloc o2).alloc o3
  have HBB : Hid (∀ W, Below w.heap.size w W → Bytes W g o ps) := fun W h => hb.below h
  have HFN : Hid (fs.length = n) := hn
  have hne : ((n : Int) == 0) = false := beq_eq_false_iff_ne.2 (by omega)
  clear hb hn
  go_enter Try.func11, Try.ntmps11
  go_wp2_with fail
  refine (R1 _ (HB.out _ _ _)).mono ?_
  rintro e w' ⟨rfl, rfl⟩
  go_wp2_with fail
  refine (R2 _ (HB.out _ _ _)).mono ?_
  rintro e w' ⟨rfl, rfl⟩
  go_wp2_with fail
  refine wp_loop_rounds 3 ?_
  rw [rounds_succ]
  go_wp2_with fail
  refine (R3 _ (HB.out _ _ _)).mono ?_
  rintro e w' ⟨rfl, rfl⟩
  go_wp2_with fail
  refine (R4 _ (HB.out _ _ _)).mono ?_
  rintro e w' ⟨rfl, rfl⟩
  go_wp2_with fail
  rw [rounds_succ]
  go_wp2_with fail
  refine (R5 _ (HB.out _ _ _)).mono ?_
  rintro e w' ⟨rfl, rfl⟩
  go_wp2_with fail
  refine (R6 _ (HB.out _ _ _)).mono ?_
  rintro e w' ⟨rfl, rfl⟩
  clear R1 R2 R3 R4 R5 R6 HB
  go_wp2_with fail
  go_loopw [7, 23] (fun p i wr => ∃ k : Nat, k ≤ n ∧ i = .int .u64 k ∧ p = .int .i64 (P k) ∧ (∃ fn fi, DF wr w.heap.size id nm fn fi ((fs.take k).map (·.1)) ((fs.take k).map (·.2))) ∧ Below w.heap.size w wr) (fun _ i _ => n - (intOf i).toNat)
  case atStart => exact ⟨0, by omega, rfl, rfl, ⟨_, _, DF.start w id nm _ _ rfl⟩, (((Below.refl _ _).alloc (Nat.le_refl _) _).alloc (by simp) _).alloc (by simp; omega) _⟩
  case round =>
    obtain ⟨k, hk, rfl, rfl, ⟨fn, fi, hD⟩, hbel⟩ := hrel
    by_cases hlt : k < n
    · have hkl : k < fs.length := by rw [HFN.out]; exact hlt
      have HR := RR.out k hkl
      go_wp2_with fail
      refine (HR _ (HBB.out _ hbel)).mono ?_
      rintro e w' ⟨rfl, rfl⟩
      have c7 : w'.cell? ⟨w.heap.size + 1, 7, none⟩ = some fn := by rw [cell_of_row _ _ _ _ _ _ hD.blk]; rfl
      have hln : ((fs.take k).map (·.1)).length = k := by simp; omega
      have hli : ((fs.take k).map (·.2)).length = k := by simp; omega
      have HNS : Hid ((fs.take (k + 1)).map (·.1) = (fs.take k).map (·.1) ++ [(fs[k]).1]) := take_map_succ _ _ _ hkl
      have HIS : Hid ((fs.take (k + 1)).map (·.2) = (fs.take k).map (·.2) ++ [(fs[k]).2]) := take_map_succ _ _ _ hkl
      have hon := hD.on
      rw [hln] at hon
      have HLN : Hid (((fs.take k).map (·.1)).length = k) := hln
      have HLI : Hid (((fs.take k).map (·.2)).length = k) := hli
      have hsz := hD.sz
      generalize (fs[k]).1 = fnm at *
      generalize (fs[k]).2 = fid at *
      generalize (fs.take k).map (·.1) = ns at *
      generalize (fs.take k).map (·.2) = is at *
      clear hln hli HR
      go_wp2_with (at_builtin; refine wpList_append_lies _ rfl (.tmp 158) (.tmp 160) 35 rfl (w.heap.size + 3) 9 j9 (.string ⟨#[]⟩) 1 16 Try.underlying35 hi9 hz90 hz91 hz92 rfl (by decide) fn k (ns.map Value.string) rfl ?c0 ⟨w'.heap.size, 0, none⟩ 1 1 [.string fnm] rfl rfl ?c1 ?c2 ?c3 ?c4 ?c5 ?c6 (w'.heap.size + 1) ?c8 ?_)
      case c0 => exact hon.alloc _
      case c1 => exact cell_one_alloc _ _ _
      case c2 => intro u hu; simp at hu; subst hu; rfl
      case c3 => omega
      case c4 => unfold maxLen; omega
      case c5 => omega
      case c6 => simp; omega
      case c8 => simp
      intro g1 cap1 w1 hown1 hgrow1 hat1 hlt1
      obtain ⟨hb1, hD1, hbel1⟩ := hD.step0 (by rw [HLN.out]; exact hown1) hgrow1 hat1
      rw [HLN.out] at hD1 hbel1
      have k7 : w1.cell? ⟨w.heap.size + 1, 7, none⟩ = some fn := by rw [cell_of_row _ _ _ _ _ _ hb1]; rfl
      have k8 : w1.cell? ⟨w.heap.size + 1, 8, none⟩ = some fi := by rw [cell_of_row _ _ _ _ _ _ hb1]; rfl
      have f7 : w1.frozen? ⟨w.heap.size + 1, 7, none⟩ = false := frozen_of_row w1 _ 7 _ _ hb1
      have hoi := hD1.oi
      rw [HLI.out] at hoi
      have hsz1 := hD1.sz
      simp only [World.setCell, Array.size_modify] at hsz1
      clear c7 hon hown1 hgrow1 hat1 hb1 hD
      go_wp2_with (at_builtin; refine wpList_append_lies _ rfl (.tmp 164) (.tmp 166) 36 rfl (w.heap.size + 3) 2 j2 (.int .i64 0) 1 8 Try.underlying36 hi2 hz20 hz21 hz22 rfl (by decide) fi k (is.map (Value.int .i64)) rfl ?d0 ⟨w1.heap.size, 0, none⟩ 1 1 [.int .i64 fid] rfl rfl ?d1 ?d2 ?d3 ?d4 ?d5 ?d6 (w1.heap.size + 1) ?d8 ?_)
      case d0 => exact hoi.alloc _
      case d1 => exact cell_one_alloc' (w1.setCell _ _) _ _ _ (by simp [World.setCell])
      case d2 => intro u hu; simp at hu; subst hu; rfl
      case d3 => omega
      case d4 => unfold maxLen; omega
      case d5 => omega
      case d6 => simp; omega
      case d8 => simp
      intro g2 cap2 w2 hown2 hgrow2 hat2 hlt2
      obtain ⟨hb2, hD2, hbel2⟩ := hD1.step1 (by rw [HLI.out]; exact hown2) hgrow2 (by simpa using hat2)
      rw [HLI.out] at hD2 hbel2
      have m8 : w2.cell? ⟨w.heap.size + 1, 8, none⟩ = some fi := by rw [cell_of_row _ _ _ _ _ _ hb2]; rfl
      have f8 : w2.frozen? ⟨w.heap.size + 1, 8, none⟩ = false := frozen_of_row w2 _ 8 _ _ hb2
      clear k7 k8 f7 hoi hown2 hgrow2 hat2 hb2 hD1
      go_wp2
      go_roundw
      case rel => exact ⟨k + 1, by omega, by go_num, rfl, ⟨_, _, by rw [HNS.out, HIS.out]; exact hD2⟩, hbel.trans (hbel1.trans hbel2)⟩
      case measure => simp [intOf]; omega
    · have ek : n = k := by omega
      subst ek
      rw [List.take_of_length_le (by rw [HFN.out]; exact Nat.le_refl _)] at hD
      obtain ⟨gn, cn, rfl, _, _⟩ := hD.on.form (by rw [List.length_map, HFN.out]; omega)
      obtain ⟨gi, ci, rfl, _, _⟩ := hD.oi.form (by rw [List.length_map, HFN.out]; omega)
      simp only [List.length_map, HFN.out] at hD
      obtain ⟨cs, hcs, hres⟩ := hD.res
      have c0 : wr.cell? ⟨w.heap.size + 1, 0, none⟩ = some (.int .i64 (-id)) := by rw [cell_of_row _ _ _ _ _ _ hD.blk]; rfl
      have c1 : wr.cell? ⟨w.heap.size + 1, 1, none⟩ = some (.string nm) := by rw [cell_of_row _ _ _ _ _ _ hD.blk]; rfl
      have c2 : wr.cell? ⟨w.heap.size + 1, 2, none⟩ = some (.int .i64 id) := by rw [cell_of_row _ _ _ _ _ _ hD.blk]; rfl
      have c3 : wr.cell? ⟨w.heap.size + 1, 3, none⟩ = some (.int .i64 2) := by rw [cell_of_row _ _ _ _ _ _ hD.blk]; rfl
      have c4 : wr.cell? ⟨w.heap.size + 1, 4, none⟩ = some (.int .i64 0) := by rw [cell_of_row _ _ _ _ _ _ hD.blk]; rfl
      have c5 : wr.cell? ⟨w.heap.size + 1, 5, none⟩ = some (.int .i64 0) := by rw [cell_of_row _ _ _ _ _ _ hD.blk]; rfl
      have c6 : wr.cell? ⟨w.heap.size + 1, 6, none⟩ = some (.int .i64 0) := by rw [cell_of_row _ _ _ _ _ _ hD.blk]; rfl
      have c7 : wr.cell? ⟨w.heap.size + 1, 7, none⟩ = some (.slice (some ⟨gn, 0, none⟩) n cn) := by rw [cell_of_row _ _ _ _ _ _ hD.blk]; rfl
      have c8 : wr.cell? ⟨w.heap.size + 1, 8, none⟩ = some (.slice (some ⟨gi, 0, none⟩) n ci) := by rw [cell_of_row _ _ _ _ _ _ hD.blk]; rfl
      have r0 : wr.cell? ⟨w.heap.size, 0, none⟩ = some (cs[0]'(by omega)) := by rw [cell_of_row _ _ _ _ _ _ hres, Array.getElem?_eq_getElem (by omega)]
      have f0 : wr.frozen? ⟨w.heap.size, 0, none⟩ = false := frozen_of_row wr _ 0 _ _ hres
      have r1 : wr.cell? ⟨w.heap.size, 1, none⟩ = some (cs[1]'(by omega)) := by rw [cell_of_row _ _ _ _ _ _ hres, Array.getElem?_eq_getElem (by omega)]
      have f1 : wr.frozen? ⟨w.heap.size, 1, none⟩ = false := frozen_of_row wr _ 1 _ _ hres
      have r2 : wr.cell? ⟨w.heap.size, 2, none⟩ = some (cs[2]'(by omega)) := by rw [cell_of_row _ _ _ _ _ _ hres, Array.getElem?_eq_getElem (by omega)]
      have f2 : wr.frozen? ⟨w.heap.size, 2, none⟩ = false := frozen_of_row wr _ 2 _ _ hres
      have r3 : wr.cell? ⟨w.heap.size, 3, none⟩ = some (cs[3]'(by omega)) := by rw [cell_of_row _ _ _ _ _ _ hres, Array.getElem?_eq_getElem (by omega)]
      have f3 : wr.frozen? ⟨w.heap.size, 3, none⟩ = false := frozen_of_row wr _ 3 _ _ hres
      have r4 : wr.cell? ⟨w.heap.size, 4, none⟩ = some (cs[4]'(by omega)) := by rw [cell_of_row _ _ _ _ _ _ hres, Array.getElem?_eq_getElem (by omega)]
      have f4 : wr.frozen? ⟨w.heap.size, 4, none⟩ = false := frozen_of_row wr _ 4 _ _ hres
      have r5 : wr.cell? ⟨w.heap.size, 5, none⟩ = some (cs[5]'(by omega)) := by rw [cell_of_row _ _ _ _ _ _ hres, Array.getElem?_eq_getElem (by omega)]
      have f5 : wr.frozen? ⟨w.heap.size, 5, none⟩ = false := frozen_of_row wr _ 5 _ _ hres
      have r6 : wr.cell? ⟨w.heap.size, 6, none⟩ = some (cs[6]'(by omega)) := by rw [cell_of_row _ _ _ _ _ _ hres, Array.getElem?_eq_getElem (by omega)]
      have f6 : wr.frozen? ⟨w.heap.size, 6, none⟩ = false := frozen_of_row wr _ 6 _ _ hres
      have r7 : wr.cell? ⟨w.heap.size, 7, none⟩ = some (cs[7]'(by omega)) := by rw [cell_of_row _ _ _ _ _ _ hres, Array.getElem?_eq_getElem (by omega)]
      have f7 : wr.frozen? ⟨w.heap.size, 7, none⟩ = false := frozen_of_row wr _ 7 _ _ hres
      have r8 : wr.cell? ⟨w.heap.size, 8, none⟩ = some (cs[8]'(by omega)) := by rw [cell_of_row _ _ _ _ _ _ hres, Array.getElem?_eq_getElem (by omega)]
      have f8 : wr.frozen? ⟨w.heap.size, 8, none⟩ = false := frozen_of_row wr _ 8 _ _ hres
      generalize cs[0]'(by omega) = x0 at *
      generalize cs[1]'(by omega) = x1 at *
      generalize cs[2]'(by omega) = x2 at *
      generalize cs[3]'(by omega) = x3 at *
      generalize cs[4]'(by omega) = x4 at *
      generalize cs[5]'(by omega) = x5 at *
      generalize cs[6]'(by omega) = x6 at *
      generalize cs[7]'(by omega) = x7 at *
      generalize cs[8]'(by omega) = x8 at *
      have hon := hD.on
      have hoi := hD.oi
      have hsz := hD.sz
      simp only [List.length_map, HFN.out, List.map_map] at hon hoi
      clear hres hD
      go_wp2_with fail
      rw [rounds_succ]
      go_wp2_with fail
      refine (R7 _ (HBB.out _ hbel)).mono ?_
      rintro e w' ⟨rfl, rfl⟩
      go_wp2_with fail
      refine (R8 _ (HBB.out _ hbel)).mono ?_
      rintro e w' ⟨rfl, rfl⟩
      go_wp2
      refine bodyPost_ret (v := .tuple #[.agg #[.int .i64 (-id), .string nm, .int .i64 id, .int .i64 2, .int .i64 0, .int .i64 0, .int .i64 0, .slice (some ⟨gn, 0, none⟩) n cn, .slice (some ⟨gi, 0, none⟩) n ci], .bool true]) ?_ rfl ⟨_, _, w.heap.size + 3, rfl, ?_, ?_, ?_⟩
      · simp [results, Try.results11, go_sem, r0, r1, r2, r3, r4, r5, r6, r7, r8]
      · exact below9 hbel
      · exact owns9 hon
      · exact owns9 hoi
end Go.Proofs.Qxb6625815a
