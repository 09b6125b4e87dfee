import Derived.Test.Qxb6625815aName
import Derived.Deep.RegionHeld3
import Derived.Deep.DrawnRows
namespace Go.Proofs.Qxb6625815a
open Go.RowKit

/-- The wire.Type at block tb. -/
structure TB (w : World) (tb : Nat) (t : Enc.Ty) (fv : Value) : Prop where
  blk : w.heap[tb]? = some (.cells #[.int .i64 t.id, .string t.name, .int .i64 t.kind, fv, .int .i64 t.elem, .int .i64 t.key, .int .i64 t.len] 49 (0, 0))

section
variable {w w' : World} {tb : Nat} {t : Enc.Ty} {fv : Value}
theorem TB.lt (h : TB w tb t fv) : tb < w.heap.size := (Array.getElem?_eq_some_iff.1 h.blk).1
theorem TB.c0 (h : TB w tb t fv) : w.cell? ⟨tb, 0, none⟩ = some (.int .i64 t.id) := by rw [cell_of_row _ _ _ _ _ _ h.blk]; rfl
theorem TB.c1 (h : TB w tb t fv) : w.cell? ⟨tb, 1, none⟩ = some (.string t.name) := by rw [cell_of_row _ _ _ _ _ _ h.blk]; rfl
theorem TB.c2 (h : TB w tb t fv) : w.cell? ⟨tb, 2, none⟩ = some (.int .i64 t.kind) := by rw [cell_of_row _ _ _ _ _ _ h.blk]; rfl
theorem TB.c3 (h : TB w tb t fv) : w.cell? ⟨tb, 3, none⟩ = some fv := by rw [cell_of_row _ _ _ _ _ _ h.blk]; rfl
theorem TB.c4 (h : TB w tb t fv) : w.cell? ⟨tb, 4, none⟩ = some (.int .i64 t.elem) := by rw [cell_of_row _ _ _ _ _ _ h.blk]; rfl
theorem TB.c5 (h : TB w tb t fv) : w.cell? ⟨tb, 5, none⟩ = some (.int .i64 t.key) := by rw [cell_of_row _ _ _ _ _ _ h.blk]; rfl
theorem TB.c6 (h : TB w tb t fv) : w.cell? ⟨tb, 6, none⟩ = some (.int .i64 t.len) := by rw [cell_of_row _ _ _ _ _ _ h.blk]; rfl
theorem TB.app {B : Nat} {v v' : Value} {xs ys : List UInt8} (h : TB w tb t fv) (hne : v.ownBlock ≠ some tb) (a : App B w w' v v' xs ys) : TB w' tb t fv ∧ v'.ownBlock ≠ some tb := by
  refine ⟨⟨by rw [a.grow.block tb h.lt (fun e => hne e.symm)]; exact h.blk⟩, ?_⟩
  rcases a.lies with e | ⟨g, e, hg⟩
  · rw [e]; exact hne
  · rw [e]; intro e'; cases e'; have := h.lt; omega
end

theorem App.undrew {B : Nat} {w w' : World} {v v' : Value} {xs ys : List UInt8} (a : App B w.drew w' v v' xs ys) : App B w w' v v' xs ys := ⟨a.own, ⟨a.grow.os, a.grow.tape, a.grow.output, a.grow.size, a.grow.block⟩, a.lies⟩

theorem two_cells (w : World) : ∀ j u, ([.int .u8 0, .int .u8 0] : List Value)[j]? = some u → (w.alloc (.cells #[.int .u8 0, .int .u8 0] 5)).cell? ((⟨w.heap.size, 0, none⟩ : Addr).add j) = some u :=
  fun j u hj => World.news_of_block (heap_alloc_new w _) j u hj
theorem two_one : ∀ u ∈ ([.int .u8 0, .int .u8 0] : List Value), u.oneCell' = true := by intro u hu; simp at hu; subst hu; rfl
/-- 'append(b, 0, 0)'. -/
theorem App.two {B : Nat} {w w1 : World} {v : Value} {xs : List UInt8} {g cap : Nat} (n : Nat) (hn : n = xs.length)
    (hown : w1.ownsRow B 5 1 (.slice (some ⟨g, 0, none⟩) (n + 2) cap) (n + 2) (Lib.byteCells xs ++ [.int .u8 0, .int .u8 0]))
    (hgrow : (w.alloc (.cells #[.int .u8 0, .int .u8 0] 5)).grownBy w1 v.ownBlock) (hat : v.ownBlock = some g ∨ g = w.heap.size + 1) :
    App B w w1 v (.slice (some ⟨g, 0, none⟩) (n + 2) cap) xs [0, 0] := by
  subst hn
  refine ⟨?_, grown_pre hgrow, ?_⟩
  · rw [Lib.byteCells_append]; exact hown
  · rcases hat with e | e
    · exact .inl e.symm
    · exact .inr ⟨g, rfl, by omega⟩

theorem nameID_len (nm : ByteArray) (id : Int) (hs : nm.size ≤ 100000000) (h0 : -9223372036854775808 ≤ id) (h1 : id ≤ 9223372036854775807) : (Enc.nameID nm.data.toList id).length ≤ nm.size + 30 := by
  have l1 := int_len id h0 h1
  have es : nm.data.toList.length = nm.size := by rw [Array.length_toList]; rfl
  have l2 := Enc.uint_len_le nm.size (by omega)
  by_cases h : nm.data.toList = []
  · rw [h, Enc.nameID_nil]; simp only [List.length_append, Enc.uint2, List.length_cons, List.length_nil]; omega
  · rw [Enc.nameID_some _ _ h, es]; simp only [List.length_append, Enc.uint1, List.length_cons, List.length_nil, es]; omega

set_option maxHeartbeats 1600000 in
set_option maxRecDepth 100000 in
theorem def1 (B : Nat) (v : Value) (xs : List UInt8) (tb : Nat) (t : Enc.Ty) (fv : Value) (w : World) (hT : TB w tb t fv) (hne : v.ownBlock ≠ some tb)
    (k0 : 0 ≤ t.kind) (k1 : t.kind ≤ 3) (k2 : t.kind ≠ 2) (i0 : 1 ≤ t.id) (i1 : t.id ≤ 9223372036854775807) (e0 : -9223372036854775808 ≤ t.elem) (e1 : t.elem ≤ 9223372036854775807)
    (y0 : -9223372036854775808 ≤ t.key) (y1 : t.key ≤ 9223372036854775807) (n0 : -9223372036854775808 ≤ t.len) (n1 : t.len ≤ 9223372036854775807)
    (hown : w.ownsRow B 5 1 v xs.length (Lib.byteCells xs)) (hB : B ≤ w.heap.size) (hl : xs.length + t.name.size ≤ 70000000) :
    Calls Try.prog 8 #[v, .pointer (some ⟨tb, 0, none⟩)] w fun e w' => ∃ v', e = .returned v' ∧ App B w w' v v' xs (Enc.defn t) := by
  obtain ⟨id, nm, kd, fs, el, ky, ln⟩ := t
  have eD : Enc.defn ⟨id, nm, kd, fs, el, ky, ln⟩ = Enc.int (-id) ++ Enc.uint (kd.toNat + 1) ++ Enc.uint 1 ++ Enc.nameID nm.data.toList id ++ Enc.body ⟨id, nm, kd, fs, el, ky, ln⟩ ++ [0, 0] := rfl
  rw [eD]
  clear eD
  simp only at *
  obtain ⟨j0, hi, hz0, hz1, hz2⟩ := info_parts Try.info5
  have c0 := hT.c0
  go_enter Try.func8, Try.ntmps8
  go_wp2_with fail
  refine (appendInt B v xs (-id) w (by omega) (by omega) hown hB (by omega)).mono ?_
  rintro e w1 ⟨v1, rfl, a1⟩
  obtain ⟨T1, ne1⟩ := hT.app hne a1
  have z1 := a1.grow.size
  have l1 := int_len (-id) (by omega) (by omega)
  have l1 : (xs ++ Enc.int (-id)).length ≤ xs.length + 9 := by rw [List.length_append]; omega
  have o1 := a1.next
  have c2 := T1.c2
  clear hown c0 hT hne
  go_wp2_with fail
  refine (uintAt B v1 _ (kd.toNat + 1) _ w1 (by omega) (by omega) o1 (by omega) (by omega)).mono ?_
  rintro e w2 ⟨v2, rfl, a2⟩
  obtain ⟨T2, ne2⟩ := T1.app ne1 a2
  have a12 := a1.trans a2
  have z2 := a12.grow.size
  have l2 := Enc.uint_len_le (kd.toNat + 1) (by omega)
  have l2 : (xs ++ (Enc.int (-id) ++ Enc.uint (kd.toNat + 1))).length ≤ xs.length + 18 := by simp only [List.length_append] at l1 ⊢; omega
  have o2 := a12.next
  clear c2 T1 ne1 o1 l1 a1 a2 z1
  go_wp2_with fail
  refine (uintAt B v2 _ 1 _ w2 rfl (by decide) o2 (by omega) (by omega)).mono ?_
  rintro e w3 ⟨v3, rfl, a3⟩
  obtain ⟨T3, ne3⟩ := T2.app ne2 a3
  have a13 := a12.trans a3
  have z3 := a13.grow.size
  have l3 : (xs ++ (Enc.int (-id) ++ Enc.uint (kd.toNat + 1) ++ Enc.uint 1)).length ≤ xs.length + 19 := by simp only [List.length_append, Enc.uint1, List.length_cons, List.length_nil] at l2 ⊢; omega
  have o3 := a13.next
  have c0 := T3.c0
  have c1 := T3.c1
  clear T2 ne2 o2 l2 a12 a3 z2
  go_wp2_with fail
  have hN := appendNameID B v3 _ nm id w3.drew (by omega) i1 o3 (by show B ≤ w3.heap.size; omega) (by omega)
  go_region_held3 (fun w' => w'.cell? ⟨tb, 0, none⟩ = some (.int .i64 id) ∧ w'.cell? ⟨tb, 1, none⟩ = some (.string nm)) (first | go_keep | exact ⟨(T3.app ne3 a4.undrew).1.c0, (T3.app ne3 a4.undrew).1.c1⟩) ((go_at_call 17; refine hN.mono ?_; rintro e w4 ⟨v4, rfl, a4⟩))
  obtain ⟨T4, ne4⟩ := T3.app ne3 a4.undrew
  have a14 := a13.trans a4.undrew
  have z4 := a14.grow.size
  have l4 := nameID_len nm id (by omega) (by omega) i1
  have l4 : (xs ++ (Enc.int (-id) ++ Enc.uint (kd.toNat + 1) ++ Enc.uint 1 ++ Enc.nameID nm.data.toList id)).length ≤ 70000100 := by simp only [List.length_append] at l3 ⊢; omega
  have o4 := a14.next
  have c2 := T4.c2
  clear hN c0 c1 T3 ne3 a13 a4 o3 l3 z3
  generalize hP : Enc.int (-id) ++ Enc.uint (kd.toNat + 1) ++ Enc.uint 1 ++ Enc.nameID nm.data.toList id = P at *
  have HP : Hid (Enc.int (-id) ++ Enc.uint (kd.toNat + 1) ++ Enc.uint 1 ++ Enc.nameID nm.data.toList id = P) := hP
  clear hP
  rcases (show kd = 0 ∨ kd = 1 ∨ kd = 3 by omega) with rfl | rfl | rfl
  · by_cases hln : ln = 0
    · have hb : (ln != 0) = false := by simp [hln]
      go_wp2_with fail
      have c4 := T4.c4
      have hU := uintAt B v4 _ 1 1 w4.drew rfl (by decide) o4 (by show B ≤ w4.heap.size; omega) (by omega)
      have HI : Hid (∀ (w5 : World) (v5 : Value) (_ : App B w4.drew w5 v4 v5 (xs ++ P) (Enc.uint 1)), Calls Try.prog 15 #[v5, .int .i64 el] w5 fun e w' => ∃ v', e = .returned v' ∧ App B w5 w' v5 v' ((xs ++ P) ++ Enc.uint 1) (Enc.int el)) :=
        fun w5 v5 a5 => appendInt B v5 _ el w5 e0 e1 a5.next (by have := a5.grow.size; simp at this; omega) (by simp only [List.length_append, Enc.uint1, List.length_cons, List.length_nil] at l4 ⊢; omega)
      go_region_held3 (fun w' => w'.cell? ⟨tb, 4, none⟩ = some (.int .i64 el)) (first | go_keep | exact (T4.app ne4 a5.undrew).1.c4 | exact (T4.app ne4 (a5.undrew.trans a6)).1.c4) ((first | (go_at_call 16; refine hU.mono ?_; rintro e w5 ⟨v5, rfl, a5⟩) | (go_at_call 15; refine (HI.out _ _ a5).mono ?_; rintro e w6 ⟨v6, rfl, a6⟩)))
      obtain ⟨T6, ne6⟩ := T4.app ne4 (a5.undrew.trans a6)
      have a16 := a14.trans (a5.undrew.trans a6)
      have z6 := a16.grow.size
      have l6 := int_len el e0 e1
      have l6 : (xs ++ (P ++ (Enc.uint 1 ++ Enc.int el))).length ≤ 70006000 := by simp only [List.length_append, Enc.uint1, List.length_cons, List.length_nil] at l4 ⊢; omega
      have o6 := a16.next
      clear hU HI c4 T4 ne4 a14 o4 a5 a6
      generalize hY6 : P ++ (Enc.uint 1 ++ Enc.int el) = Y6 at *
      have HY6 : Hid (P ++ (Enc.uint 1 ++ Enc.int el) = Y6) := hY6
      clear hY6
      have c6 := T6.c6
      have Q4 : Hid (xs.length + Y6.length + 2 ≤ maxLen) := by rw [List.length_append] at l6; show _ ≤ _; unfold maxLen; omega
      have Q5 : Hid ((xs.length + Y6.length + 2) * 1 ≤ 140737488355328) := by rw [List.length_append] at l6; show _ ≤ _; omega
      have Q6 : Hid (∀ o, B ≤ (w6.alloc o).heap.size) := fun o => by simp; omega
      have Q8 : Hid (∀ o, (w6.alloc o).heap.size = w6.heap.size + 1) := fun o => by simp
      have Q0 : Hid (∀ o, (w6.alloc o).ownsRow B 5 1 v6 (xs.length + Y6.length) (Lib.byteCells (xs ++ Y6))) := fun o => a16.own.alloc o
      go_wp2_with (at_builtin; refine wpList_append_lies _ rfl (.tmp 117) (.tmp 118) 22 rfl B 5 j0 (.int .u8 0) 1 1 Try.underlying22 hi hz0 hz1 hz2 rfl (by decide) v6 (xs.length + Y6.length) (Lib.byteCells (xs ++ Y6)) rfl (Q0.out _) ⟨w6.heap.size, 0, none⟩ 2 2 [.int .u8 0, .int .u8 0] rfl rfl (two_cells _) two_one (by decide) Q4.out Q5.out (Q6.out _) (w6.heap.size + 1) (Q8.out _) ?_)
      intro g cap w9 hown9 hgrow9 hat9 hlt9
      have key := a16.trans (App.two _ (by simp) hown9 hgrow9 hat9)
      clear hown9 hgrow9 hat9 o6 a16 Q0 Q4 Q5 Q6 Q8
      go_wp2
      go_ret
      exact ⟨_, rfl, by rw [HP.out, show Enc.body ⟨id, nm, 0, fs, el, ky, ln⟩ = Enc.uint 1 ++ Enc.int el ++ (if ln = 0 then [] else Enc.uint 1 ++ Enc.int ln) from rfl, if_pos hln, List.append_nil, HY6.out]; exact key⟩
    · have hb : (ln != 0) = true := by simp [hln]
      go_wp2_with fail
      have c4 := T4.c4
      have hU := uintAt B v4 _ 1 1 w4.drew rfl (by decide) o4 (by show B ≤ w4.heap.size; omega) (by omega)
      have HI : Hid (∀ (w5 : World) (v5 : Value) (_ : App B w4.drew w5 v4 v5 (xs ++ P) (Enc.uint 1)), Calls Try.prog 15 #[v5, .int .i64 el] w5 fun e w' => ∃ v', e = .returned v' ∧ App B w5 w' v5 v' ((xs ++ P) ++ Enc.uint 1) (Enc.int el)) :=
        fun w5 v5 a5 => appendInt B v5 _ el w5 e0 e1 a5.next (by have := a5.grow.size; simp at this; omega) (by simp only [List.length_append, Enc.uint1, List.length_cons, List.length_nil] at l4 ⊢; omega)
      go_region_held3 (fun w' => w'.cell? ⟨tb, 4, none⟩ = some (.int .i64 el)) (first | go_keep | exact (T4.app ne4 a5.undrew).1.c4 | exact (T4.app ne4 (a5.undrew.trans a6)).1.c4) ((first | (go_at_call 16; refine hU.mono ?_; rintro e w5 ⟨v5, rfl, a5⟩) | (go_at_call 15; refine (HI.out _ _ a5).mono ?_; rintro e w6 ⟨v6, rfl, a6⟩)))
      obtain ⟨T6, ne6⟩ := T4.app ne4 (a5.undrew.trans a6)
      have a16 := a14.trans (a5.undrew.trans a6)
      have z6 := a16.grow.size
      have l6 := int_len el e0 e1
      have l6 : (xs ++ (P ++ (Enc.uint 1 ++ Enc.int el))).length ≤ 70006000 := by simp only [List.length_append, Enc.uint1, List.length_cons, List.length_nil] at l4 ⊢; omega
      have o6 := a16.next
      clear hU HI c4 T4 ne4 a14 o4 a5 a6
      generalize hY6 : P ++ (Enc.uint 1 ++ Enc.int el) = Y6 at *
      have HY6 : Hid (P ++ (Enc.uint 1 ++ Enc.int el) = Y6) := hY6
      clear hY6
      have c6 := T6.c6
      go_wp2_with fail
      clear c6
      have c6 := T6.c6
      have hU := uintAt B v6 _ 1 1 w6.drew rfl (by decide) o6 (by show B ≤ w6.heap.size; omega) (by omega)
      have HI : Hid (∀ (w5 : World) (v5 : Value) (_ : App B w6.drew w5 v6 v5 (xs ++ Y6) (Enc.uint 1)), Calls Try.prog 15 #[v5, .int .i64 ln] w5 fun e w' => ∃ v', e = .returned v' ∧ App B w5 w' v5 v' ((xs ++ Y6) ++ Enc.uint 1) (Enc.int ln)) :=
        fun w5 v5 a5 => appendInt B v5 _ ln w5 n0 n1 a5.next (by have := a5.grow.size; simp at this; omega) (by simp only [List.length_append, Enc.uint1, List.length_cons, List.length_nil] at l6 ⊢; omega)
      go_region_held3 (fun w' => w'.cell? ⟨tb, 6, none⟩ = some (.int .i64 ln)) (first | go_keep | exact (T6.app ne6 a5.undrew).1.c6 | exact (T6.app ne6 (a5.undrew.trans a6)).1.c6) ((first | (go_at_call 16; refine hU.mono ?_; rintro e w5 ⟨v5, rfl, a5⟩) | (go_at_call 15; refine (HI.out _ _ a5).mono ?_; rintro e w8 ⟨v8, rfl, a6⟩)))
      obtain ⟨T8, ne8⟩ := T6.app ne6 (a5.undrew.trans a6)
      have a18 := a16.trans (a5.undrew.trans a6)
      have z8 := a18.grow.size
      have l8 := int_len ln n0 n1
      have l8 : (xs ++ (Y6 ++ (Enc.uint 1 ++ Enc.int ln))).length ≤ 70008000 := by simp only [List.length_append, Enc.uint1, List.length_cons, List.length_nil] at l6 ⊢; omega
      have o8 := a18.next
      clear hU HI c6 T6 ne6 a16 o6 a5 a6
      generalize hY8 : Y6 ++ (Enc.uint 1 ++ Enc.int ln) = Y8 at *
      have HY8 : Hid (Y6 ++ (Enc.uint 1 ++ Enc.int ln) = Y8) := hY8
      clear hY8
      have Q4 : Hid (xs.length + Y8.length + 2 ≤ maxLen) := by rw [List.length_append] at l8; show _ ≤ _; unfold maxLen; omega
      have Q5 : Hid ((xs.length + Y8.length + 2) * 1 ≤ 140737488355328) := by rw [List.length_append] at l8; show _ ≤ _; omega
      have Q6 : Hid (∀ o, B ≤ (w8.alloc o).heap.size) := fun o => by simp; omega
      have Q8 : Hid (∀ o, (w8.alloc o).heap.size = w8.heap.size + 1) := fun o => by simp
      have Q0 : Hid (∀ o, (w8.alloc o).ownsRow B 5 1 v8 (xs.length + Y8.length) (Lib.byteCells (xs ++ Y8))) := fun o => a18.own.alloc o
      go_wp2_with (at_builtin; refine wpList_append_lies _ rfl (.tmp 117) (.tmp 118) 22 rfl B 5 j0 (.int .u8 0) 1 1 Try.underlying22 hi hz0 hz1 hz2 rfl (by decide) v8 (xs.length + Y8.length) (Lib.byteCells (xs ++ Y8)) rfl (Q0.out _) ⟨w8.heap.size, 0, none⟩ 2 2 [.int .u8 0, .int .u8 0] rfl rfl (two_cells _) two_one (by decide) Q4.out Q5.out (Q6.out _) (w8.heap.size + 1) (Q8.out _) ?_)
      intro g cap w9 hown9 hgrow9 hat9 hlt9
      have key := a18.trans (App.two _ (by simp) hown9 hgrow9 hat9)
      clear hown9 hgrow9 hat9 o8 a18 Q0 Q4 Q5 Q6 Q8
      go_wp2
      go_ret
      exact ⟨_, rfl, by rw [HP.out, show Enc.body ⟨id, nm, 0, fs, el, ky, ln⟩ = Enc.uint 1 ++ Enc.int el ++ (if ln = 0 then [] else Enc.uint 1 ++ Enc.int ln) from rfl, if_neg hln, ← HY8.out, ← HY6.out] at *; simp only [List.append_assoc] at *; exact key⟩
  · go_wp2_with fail
    have c4 := T4.c4
    have hU := uintAt B v4 _ 1 1 w4.drew rfl (by decide) o4 (by show B ≤ w4.heap.size; omega) (by omega)
    have HI : Hid (∀ (w5 : World) (v5 : Value) (_ : App B w4.drew w5 v4 v5 (xs ++ P) (Enc.uint 1)), Calls Try.prog 15 #[v5, .int .i64 el] w5 fun e w' => ∃ v', e = .returned v' ∧ App B w5 w' v5 v' ((xs ++ P) ++ Enc.uint 1) (Enc.int el)) :=
      fun w5 v5 a5 => appendInt B v5 _ el w5 e0 e1 a5.next (by have := a5.grow.size; simp at this; omega) (by simp only [List.length_append, Enc.uint1, List.length_cons, List.length_nil] at l4 ⊢; omega)
    go_region_held3 (fun w' => w'.cell? ⟨tb, 4, none⟩ = some (.int .i64 el)) (first | go_keep | exact (T4.app ne4 a5.undrew).1.c4 | exact (T4.app ne4 (a5.undrew.trans a6)).1.c4) ((first | (go_at_call 16; refine hU.mono ?_; rintro e w5 ⟨v5, rfl, a5⟩) | (go_at_call 15; refine (HI.out _ _ a5).mono ?_; rintro e w6 ⟨v6, rfl, a6⟩)))
    obtain ⟨T6, ne6⟩ := T4.app ne4 (a5.undrew.trans a6)
    have a16 := a14.trans (a5.undrew.trans a6)
    have z6 := a16.grow.size
    have l6 := int_len el e0 e1
    have l6 : (xs ++ (P ++ (Enc.uint 1 ++ Enc.int el))).length ≤ 70006000 := by simp only [List.length_append, Enc.uint1, List.length_cons, List.length_nil] at l4 ⊢; omega
    have o6 := a16.next
    clear hU HI c4 T4 ne4 a14 o4 a5 a6
    generalize hY6 : P ++ (Enc.uint 1 ++ Enc.int el) = Y6 at *
    have HY6 : Hid (P ++ (Enc.uint 1 ++ Enc.int el) = Y6) := hY6
    clear hY6
    have Q4 : Hid (xs.length + Y6.length + 2 ≤ maxLen) := by rw [List.length_append] at l6; show _ ≤ _; unfold maxLen; omega
    have Q5 : Hid ((xs.length + Y6.length + 2) * 1 ≤ 140737488355328) := by rw [List.length_append] at l6; show _ ≤ _; omega
    have Q6 : Hid (∀ o, B ≤ (w6.alloc o).heap.size) := fun o => by simp; omega
    have Q8 : Hid (∀ o, (w6.alloc o).heap.size = w6.heap.size + 1) := fun o => by simp
    have Q0 : Hid (∀ o, (w6.alloc o).ownsRow B 5 1 v6 (xs.length + Y6.length) (Lib.byteCells (xs ++ Y6))) := fun o => a16.own.alloc o
    go_wp2_with (at_builtin; refine wpList_append_lies _ rfl (.tmp 117) (.tmp 118) 22 rfl B 5 j0 (.int .u8 0) 1 1 Try.underlying22 hi hz0 hz1 hz2 rfl (by decide) v6 (xs.length + Y6.length) (Lib.byteCells (xs ++ Y6)) rfl (Q0.out _) ⟨w6.heap.size, 0, none⟩ 2 2 [.int .u8 0, .int .u8 0] rfl rfl (two_cells _) two_one (by decide) Q4.out Q5.out (Q6.out _) (w6.heap.size + 1) (Q8.out _) ?_)
    intro g cap w9 hown9 hgrow9 hat9 hlt9
    have key := a16.trans (App.two _ (by simp) hown9 hgrow9 hat9)
    clear hown9 hgrow9 hat9 o6 a16 Q0 Q4 Q5 Q6 Q8
    go_wp2
    go_ret
    exact ⟨_, rfl, by rw [HP.out, show Enc.body ⟨id, nm, 1, fs, el, ky, ln⟩ = Enc.uint 1 ++ Enc.int el from rfl, HY6.out]; exact key⟩
  · go_wp2_with fail
    have c5 := T4.c5
    have hU := uintAt B v4 _ 1 1 w4.drew rfl (by decide) o4 (by show B ≤ w4.heap.size; omega) (by omega)
    have HI : Hid (∀ (w5 : World) (v5 : Value) (_ : App B w4.drew w5 v4 v5 (xs ++ P) (Enc.uint 1)), Calls Try.prog 15 #[v5, .int .i64 ky] w5 fun e w' => ∃ v', e = .returned v' ∧ App B w5 w' v5 v' ((xs ++ P) ++ Enc.uint 1) (Enc.int ky)) :=
      fun w5 v5 a5 => appendInt B v5 _ ky w5 y0 y1 a5.next (by have := a5.grow.size; simp at this; omega) (by simp only [List.length_append, Enc.uint1, List.length_cons, List.length_nil] at l4 ⊢; omega)
    go_region_held3 (fun w' => w'.cell? ⟨tb, 5, none⟩ = some (.int .i64 ky)) (first | go_keep | exact (T4.app ne4 a5.undrew).1.c5 | exact (T4.app ne4 (a5.undrew.trans a6)).1.c5) ((first | (go_at_call 16; refine hU.mono ?_; rintro e w5 ⟨v5, rfl, a5⟩) | (go_at_call 15; refine (HI.out _ _ a5).mono ?_; rintro e w6 ⟨v6, rfl, a6⟩)))
    obtain ⟨T6, ne6⟩ := T4.app ne4 (a5.undrew.trans a6)
    have a16 := a14.trans (a5.undrew.trans a6)
    have z6 := a16.grow.size
    have l6 := int_len ky y0 y1
    have l6 : (xs ++ (P ++ (Enc.uint 1 ++ Enc.int ky))).length ≤ 70006000 := by simp only [List.length_append, Enc.uint1, List.length_cons, List.length_nil] at l4 ⊢; omega
    have o6 := a16.next
    clear hU HI c5 T4 ne4 a14 o4 a5 a6
    generalize hY6 : P ++ (Enc.uint 1 ++ Enc.int ky) = Y6 at *
    have HY6 : Hid (P ++ (Enc.uint 1 ++ Enc.int ky) = Y6) := hY6
    clear hY6
    go_wp2_with fail
    have c4 := T6.c4
    have hU := uintAt B v6 _ 1 1 w6.drew rfl (by decide) o6 (by show B ≤ w6.heap.size; omega) (by omega)
    have HI : Hid (∀ (w5 : World) (v5 : Value) (_ : App B w6.drew w5 v6 v5 (xs ++ Y6) (Enc.uint 1)), Calls Try.prog 15 #[v5, .int .i64 el] w5 fun e w' => ∃ v', e = .returned v' ∧ App B w5 w' v5 v' ((xs ++ Y6) ++ Enc.uint 1) (Enc.int el)) :=
      fun w5 v5 a5 => appendInt B v5 _ el w5 e0 e1 a5.next (by have := a5.grow.size; simp at this; omega) (by simp only [List.length_append, Enc.uint1, List.length_cons, List.length_nil] at l6 ⊢; omega)
    go_region_held3 (fun w' => w'.cell? ⟨tb, 4, none⟩ = some (.int .i64 el)) (first | go_keep | exact (T6.app ne6 a5.undrew).1.c4 | exact (T6.app ne6 (a5.undrew.trans a6)).1.c4) ((first | (go_at_call 16; refine hU.mono ?_; rintro e w5 ⟨v5, rfl, a5⟩) | (go_at_call 15; refine (HI.out _ _ a5).mono ?_; rintro e w8 ⟨v8, rfl, a6⟩)))
    obtain ⟨T8, ne8⟩ := T6.app ne6 (a5.undrew.trans a6)
    have a18 := a16.trans (a5.undrew.trans a6)
    have z8 := a18.grow.size
    have l8 := int_len el e0 e1
    have l8 : (xs ++ (Y6 ++ (Enc.uint 1 ++ Enc.int el))).length ≤ 70008000 := by simp only [List.length_append, Enc.uint1, List.length_cons, List.length_nil] at l6 ⊢; omega
    have o8 := a18.next
    clear hU HI c4 T6 ne6 a16 o6 a5 a6
    generalize hY8 : Y6 ++ (Enc.uint 1 ++ Enc.int el) = Y8 at *
    have HY8 : Hid (Y6 ++ (Enc.uint 1 ++ Enc.int el) = Y8) := hY8
    clear hY8
    have Q4 : Hid (xs.length + Y8.length + 2 ≤ maxLen) := by rw [List.length_append] at l8; show _ ≤ _; unfold maxLen; omega
    have Q5 : Hid ((xs.length + Y8.length + 2) * 1 ≤ 140737488355328) := by rw [List.length_append] at l8; show _ ≤ _; omega
    have Q6 : Hid (∀ o, B ≤ (w8.alloc o).heap.size) := fun o => by simp; omega
    have Q8 : Hid (∀ o, (w8.alloc o).heap.size = w8.heap.size + 1) := fun o => by simp
    have Q0 : Hid (∀ o, (w8.alloc o).ownsRow B 5 1 v8 (xs.length + Y8.length) (Lib.byteCells (xs ++ Y8))) := fun o => a18.own.alloc o
    go_wp2_with (at_builtin; refine wpList_append_lies _ rfl (.tmp 117) (.tmp 118) 22 rfl B 5 j0 (.int .u8 0) 1 1 Try.underlying22 hi hz0 hz1 hz2 rfl (by decide) v8 (xs.length + Y8.length) (Lib.byteCells (xs ++ Y8)) rfl (Q0.out _) ⟨w8.heap.size, 0, none⟩ 2 2 [.int .u8 0, .int .u8 0] rfl rfl (two_cells _) two_one (by decide) Q4.out Q5.out (Q6.out _) (w8.heap.size + 1) (Q8.out _) ?_)
    intro g cap w9 hown9 hgrow9 hat9 hlt9
    have key := a18.trans (App.two _ (by simp) hown9 hgrow9 hat9)
    clear hown9 hgrow9 hat9 o8 a18 Q0 Q4 Q5 Q6 Q8
    go_wp2
    go_ret
    exact ⟨_, rfl, by rw [HP.out, show Enc.body ⟨id, nm, 3, fs, el, ky, ln⟩ = Enc.uint 1 ++ Enc.int ky ++ (Enc.uint 1 ++ Enc.int el) from rfl, ← HY8.out, ← HY6.out] at *; simp only [List.append_assoc] at *; exact key⟩
end Go.Proofs.Qxb6625815a
