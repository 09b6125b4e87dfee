import Derived.Test.Qxb6625815aApp2
namespace Go.Proofs.Qxb6625815a
open Go.RowKit

theorem App.next {B : Nat} {w w' : World} {v v' : Value} {xs ys : List UInt8} (h : App B w w' v v' xs ys) : w'.ownsRow B 5 1 v' (xs ++ ys).length (Lib.byteCells (xs ++ ys)) := by
  rw [List.length_append]; exact h.own

/-- 'append(b, c)' of one byte. -/
theorem App.one {B : Nat} {w w1 : World} {v : Value} {xs : List UInt8} {g cap : Nat} (b : UInt8) (n : Nat) (c : Int) (hn : n = xs.length) (hc : c = (b.toNat : Int))
    (hown : w1.ownsRow B 5 1 (.slice (some ⟨g, 0, none⟩) (n + 1) cap) (n + 1) (Lib.byteCells xs ++ [.int .u8 c]))
    (hgrow : (w.alloc (.cells #[.int .u8 c] 5)).grownBy w1 v.ownBlock) (hat : v.ownBlock = some g ∨ g = w.heap.size + 1) :
    App B w w1 v (.slice (some ⟨g, 0, none⟩) (n + 1) cap) xs [b] := by
  subst hn
  subst hc
  refine ⟨?_, grown_pre hgrow, ?_⟩
  · rw [Lib.byteCells_append]; exact hown
  · rcases hat with e | e
    · exact .inl e.symm
    · exact .inr ⟨g, rfl, by omega⟩

theorem toList_data (s : ByteArray) : s.toList = s.data.toList := by
  obtain ⟨⟨l⟩⟩ := s
  rw [show (ByteArray.mk { toList := l }) = ByteArray.mk l.toArray from rfl, ByteArray.toList_mk]
theorem uintAt (B : Nat) (v : Value) (xs : List UInt8) (n : Nat) (x : Int) (w : World) (hx : x = (n : Int)) (hx2 : n < 18446744073709551616) (hown : w.ownsRow B 5 1 v xs.length (Lib.byteCells xs)) (hB : B ≤ w.heap.size) (hl : xs.length ≤ 100000000) :
    Calls Try.prog 16 #[v, .int .u64 x] w fun e w' => ∃ v', e = .returned v' ∧ App B w w' v v' xs (Enc.uint n) := by
  subst hx; exact appendUint B v xs n w hx2 hown hB hl

theorem int_len (id : Int) (h0 : -9223372036854775808 ≤ id) (h1 : id ≤ 9223372036854775807) : (Enc.int id).length ≤ 9 := Enc.uint_len_le _ (Lib.zigzag_lt h0 h1)

set_option maxHeartbeats 800000 in
set_option maxRecDepth 100000 in
theorem appendNameID_nil (B : Nat) (v : Value) (xs : List UInt8) (s : ByteArray) (id : Int) (w : World) (hs : s.data.toList = []) (h0 : -9223372036854775808 ≤ id) (h1 : id ≤ 9223372036854775807)
    (hown : w.ownsRow B 5 1 v xs.length (Lib.byteCells xs)) (hB : B ≤ w.heap.size) (hl : xs.length ≤ 80000000) :
    Calls Try.prog 17 #[v, .string s, .int .i64 id] w fun e w' => ∃ v', e = .returned v' ∧ App B w w' v v' xs (Enc.nameID s.data.toList id) := by
  have hne : s.toList.isEmpty = true := by rw [toList_data, hs]; rfl
  obtain ⟨i0, hi, hz0, hz1, hz2⟩ := info_parts Try.info5
  rw [hs, Enc.nameID_nil]
  clear hs
  go_enter Try.func17, Try.ntmps17
  go_wp2_with fail
  refine (uintAt B v xs 2 _ w rfl (by decide) hown hB (by omega)).mono ?_
  rintro e w1 ⟨v1, rfl, a1⟩
  have z1 := a1.grow.size
  have l1 : (xs ++ Enc.uint 2).length ≤ 80000001 := by rw [List.length_append, Enc.uint2]; simp; omega
  clear hown
  go_wp2_with fail
  refine (appendInt B v1 _ id w1 h0 h1 a1.next (by omega) (by omega)).mono ?_
  rintro e w2 ⟨v2, rfl, a2⟩
  have z2 := a2.grow.size
  have a12 := a1.trans a2
  have ho := a12.next
  have l2 := int_len id h0 h1
  have l3 : (xs ++ (Enc.uint 2 ++ Enc.int id)).length ≤ 80000010 := by simp only [List.length_append] at l1 ⊢; omega
  generalize hE : Enc.uint 2 ++ Enc.int id = ys at *
  have HE : Hid (Enc.uint 2 ++ Enc.int id = ys) := hE
  clear a1 a2 hE
  go_wp2_with (at_builtin; refine wpList_append_lies _ rfl (.tmp 18) (.tmp 19) 22 rfl B 5 i0 (.int .u8 0) 1 1 Try.underlying22 hi hz0 hz1 hz2 rfl (by decide) v2 (xs ++ ys).length (Lib.byteCells (xs ++ ys)) rfl ?c0 ⟨w2.heap.size, 0, none⟩ 1 1 [.int .u8 0] rfl rfl ?c1 ?c2 ?c3 ?c4 ?c5 ?c6 (w2.heap.size + 1) ?c8 ?_)
  case c0 => exact ho.alloc _
  case c1 => exact cell_one_alloc _ _ _
  case c2 => simp [Value.oneCell']
  case c3 => omega
  case c4 => unfold maxLen; omega
  case c5 => omega
  case c6 => simp; omega
  case c8 => simp
  intro g cap w3 hown3 hgrow hat hlt
  have key := a12.trans (App.one 0 _ 0 (by simp) rfl hown3 hgrow hat)
  clear hown3 hgrow hat ho a12
  go_wp2
  go_ret
  exact ⟨_, rfl, by rw [HE.out]; exact key⟩

set_option maxHeartbeats 800000 in
set_option maxRecDepth 100000 in
theorem appendNameID_some (B : Nat) (v : Value) (xs : List UInt8) (s : ByteArray) (id : Int) (w : World) (hs : s.data.toList ≠ []) (h0 : -9223372036854775808 ≤ id) (h1 : id ≤ 9223372036854775807)
    (hown : w.ownsRow B 5 1 v xs.length (Lib.byteCells xs)) (hB : B ≤ w.heap.size) (hl : xs.length + s.size ≤ 80000000) :
    Calls Try.prog 17 #[v, .string s, .int .i64 id] w fun e w' => ∃ v', e = .returned v' ∧ App B w w' v v' xs (Enc.nameID s.data.toList id) := by
  have hne : s.toList.isEmpty = false := by rw [toList_data]; simpa using hs
  have es : s.data.toList.length = s.size := by rw [Array.length_toList]; rfl
  obtain ⟨i0, hi, hz0, hz1, hz2⟩ := info_parts Try.info5
  rw [Enc.nameID_some _ _ hs, es]
  have ls := Enc.uint_len_le s.size (by omega)
  have HS : Hid (s.data.toList.length = s.size) := es
  clear hs es
  go_enter Try.func17, Try.ntmps17
  go_wp2_with fail
  refine (uintAt B v xs 1 _ w rfl (by decide) hown hB (by omega)).mono ?_
  rintro e w1 ⟨v1, rfl, a1⟩
  have z1 := a1.grow.size
  have l1 : (xs ++ Enc.uint 1).length = xs.length + 1 := by rw [List.length_append, Enc.uint1]; rfl
  have o1 := a1.next
  have HL1 : Hid ((xs ++ Enc.uint 1).length = xs.length + 1) := l1
  clear hown l1
  go_wp2_with fail
  refine (appendBytes B v1 _ s w1 o1 (by omega) (by rw [HL1.out]; omega)).mono ?_
  rintro e w2 ⟨v2, rfl, a2⟩
  have z2 := a2.grow.size
  have a12 := a1.trans a2
  have l2 : (xs ++ (Enc.uint 1 ++ (Enc.uint s.size ++ s.data.toList))).length ≤ 80000010 := by
    simp only [List.length_append, HS.out, Enc.uint1, List.length_cons, List.length_nil]; omega
  have o2 := a12.next
  generalize hE : Enc.uint 1 ++ (Enc.uint s.size ++ s.data.toList) = ys at *
  have HE : Hid (Enc.uint 1 ++ (Enc.uint s.size ++ s.data.toList) = ys) := hE
  clear a1 a2 hE o1 HL1
  go_wp2_with fail
  refine (uintAt B v2 _ 1 _ w2 rfl (by decide) o2 (by omega) (by omega)).mono ?_
  rintro e w3 ⟨v3, rfl, a3⟩
  have z3 := a3.grow.size
  have a13 := a12.trans a3
  have o3 := a13.next
  have l3 : (xs ++ (ys ++ Enc.uint 1)).length ≤ 80000011 := by
    simp only [List.length_append, Enc.uint1, List.length_cons, List.length_nil] at l2 ⊢; omega
  clear a12 a3 o2 l2
  go_wp2_with fail
  refine (appendInt B v3 _ id w3 h0 h1 o3 (by omega) (by omega)).mono ?_
  rintro e w4 ⟨v4, rfl, a4⟩
  have z4 := a4.grow.size
  have a14 := a13.trans a4
  have o4 := a14.next
  have l4 := int_len id h0 h1
  have l5 : (xs ++ (ys ++ Enc.uint 1 ++ Enc.int id)).length ≤ 80000020 := by simp only [List.length_append] at l3 ⊢; omega
  generalize hF : ys ++ Enc.uint 1 ++ Enc.int id = zs at *
  have HF : Hid (ys ++ Enc.uint 1 ++ Enc.int id = zs) := hF
  clear a13 a4 o3 l3 hF
  go_wp2_with (at_builtin; refine wpList_append_lies _ rfl (.tmp 18) (.tmp 19) 22 rfl B 5 i0 (.int .u8 0) 1 1 Try.underlying22 hi hz0 hz1 hz2 rfl (by decide) v4 (xs ++ zs).length (Lib.byteCells (xs ++ zs)) rfl ?c0 ⟨w4.heap.size, 0, none⟩ 1 1 [.int .u8 0] rfl rfl ?c1 ?c2 ?c3 ?c4 ?c5 ?c6 (w4.heap.size + 1) ?c8 ?_)
  case c0 => exact o4.alloc _
  case c1 => exact cell_one_alloc _ _ _
  case c2 => simp [Value.oneCell']
  case c3 => omega
  case c4 => unfold maxLen; omega
  case c5 => omega
  case c6 => simp; omega
  case c8 => simp
  intro g cap w5 hown5 hgrow hat hlt
  have key := a14.trans (App.one 0 _ 0 (by simp) rfl hown5 hgrow hat)
  clear hown5 hgrow hat o4 a14
  go_wp2
  go_ret
  exact ⟨_, rfl, by rw [HE.out, HF.out]; exact key⟩

/-- 'appendNameID(b, name, id)'. -/
theorem appendNameID (B : Nat) (v : Value) (xs : List UInt8) (s : ByteArray) (id : Int) (w : World) (h0 : -9223372036854775808 ≤ id) (h1 : id ≤ 9223372036854775807)
    (hown : w.ownsRow B 5 1 v xs.length (Lib.byteCells xs)) (hB : B ≤ w.heap.size) (hl : xs.length + s.size ≤ 80000000) :
    Calls Try.prog 17 #[v, .string s, .int .i64 id] w fun e w' => ∃ v', e = .returned v' ∧ App B w w' v v' xs (Enc.nameID s.data.toList id) := by
  by_cases hs : s.data.toList = []
  · exact appendNameID_nil B v xs s id w hs h0 h1 hown hB (by omega)
  · exact appendNameID_some B v xs s id w hs h0 h1 hown hB hl
end Go.Proofs.Qxb6625815a
