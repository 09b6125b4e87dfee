import Derived.Test.Qxb6625815aApp
import Derived.Lib.AppendStr
namespace Go.Proofs.Qxb6625815a
open Go.RowKit

theorem not_neg (i : Int) (h0 : -9223372036854775808 ≤ i) (h1 : i < 0) : bits .xor .i64 (-1) i = -i - 1 := by
  show IntKind.i64.wrap ((BitVec.ofInt 64 (-1) ^^^ BitVec.ofInt 64 i).toNat : Int) = _
  have e1 : (BitVec.ofInt 64 (-1)).toNat = 2 ^ 64 - 1 := by decide
  have e2 : (BitVec.ofInt 64 i).toNat = (i + 18446744073709551616).toNat := by
    rw [BitVec.toNat_ofInt]
    omega
  rw [BitVec.toNat_xor, e1, e2, Lib.xor_ones64 _ (by omega), IntKind.wrap_i64]
  omega

theorem zig_neg (i : Int) (h0 : -9223372036854775808 ≤ i) (h1 : i < 0) :
    bits BinOp.or IntKind.u64 (IntKind.u64.wrap (IntKind.u64.wrap (bits BinOp.xor IntKind.i64 (-1) i) * 2)) 1 = ((Lib.zigzag i : Nat) : Int) := by
  rw [not_neg i h0 h1, wraps_u64 (-i - 1) (by omega) (by omega), wraps_u64 _ (by omega) (by omega)]
  rw [bits_join .u64 64 (by decide) wraps_u64 1 _ 1 (by omega) (by omega) (by omega) (by omega) (by omega) (by omega)]
  unfold Lib.zigzag
  rw [if_neg (by omega)]
  omega

set_option maxHeartbeats 400000 in
set_option maxRecDepth 100000 in
/-- 'AppendInt(b, i)'. -/
theorem appendInt (B : Nat) (v : Value) (xs : List UInt8) (i : Int) (w : World) (h0 : -9223372036854775808 ≤ i) (h1 : i ≤ 9223372036854775807) (hown : w.ownsRow B 5 1 v xs.length (Lib.byteCells xs)) (hB : B ≤ w.heap.size) (hl : xs.length ≤ 100000000) :
    Calls Try.prog 15 #[v, .int .i64 i] w fun e w' => ∃ v', e = .returned v' ∧ App B w w' v v' xs (Enc.int i) := by
  have hz := Lib.zigzag_lt h0 h1
  have key := appendUint B v xs (Lib.zigzag i) w hz hown hB hl
  have HK : Hid (Calls Try.prog 16 #[v, .int .u64 (Lib.zigzag i)] w fun e w' => ∃ v', e = .returned v' ∧ App B w w' v v' xs (Enc.int i)) := key
  clear key
  by_cases hi : i < 0
  · go_enter Try.func15, Try.ntmps15
    go_wp2_with fail
    rw [zig_neg i h0 hi]
    refine HK.out.mono ?_
    rintro e w' ⟨v', rfl, h⟩
    clear HK hown
    go_wp2
    go_ret
    exact ⟨_, rfl, h⟩
  · go_enter Try.func15, Try.ntmps15
    go_wp2_with fail
    rw [show i * 2 = ((Lib.zigzag i : Nat) : Int) from (Lib.zigzag_nonneg (by omega)).symm]
    refine HK.out.mono ?_
    rintro e w' ⟨v', rfl, h⟩
    clear HK hown
    go_wp2
    go_ret
    exact ⟨_, rfl, h⟩

/-- 'append(b, s...)' onto a row that is owned and not nil: where the new slice lies. -/
theorem run_append_string_lies (w : World) (base ty g n cap : Nat) (xs : List Value) (s : ByteArray) (hown : w.ownsRow base 5 1 (.slice (some ⟨g, 0, none⟩) n cap) n xs) (hbytes : n + s.size ≤ 100000000) (hbase : base ≤ w.heap.size) :
    ∃ g' cap' w', (Builtin.append_ #[22, 9] ty #[.slice (some ⟨g, 0, none⟩) n cap, .string s]).run Try.prog w = .ok (.slice (some ⟨g', 0, none⟩) (n + s.size) cap') w' ∧
      w'.ownsRow base 5 1 (.slice (some ⟨g', 0, none⟩) (n + s.size) cap') (n + s.size) (xs ++ Lib.byteCells s.data.toList) ∧ w.grownBy w' (some g) ∧ (g' = g ∨ g' = w.heap.size) := by
  obtain ⟨i, hi, hz, hsize, hby⟩ := info_parts Try.info5
  have hxl : xs.length = n := by simpa using hown.1
  have ec : Lib.strCells s = Lib.byteCells s.data.toList := rfl
  have hlen : (xs ++ Lib.strCells s).length = (n + s.size) * 1 := by rw [List.length_append, hxl, Lib.strCells_length, Nat.mul_one]
  rcases hown.2 with ⟨h, _⟩ | ⟨g0, cap0, cur, hv, hbg, hg, hnc, hcm, hcs, htake⟩
  · cases h
  · simp only [Value.slice.injEq, Option.some.injEq, Addr.mk.injEq, true_and, and_true] at hv
    obtain ⟨rfl, rfl⟩ := hv
    rw [← ec]
    by_cases hroom : n + s.size ≤ cap
    · have hcs' : cur.size = cap := by simpa using hcs
      have hr := Lib.run_append_room_string (P := Try.prog) w 22 9 ty 5 i Try.underlying22 Try.underlying9 hi hsize g n cap cur hg s hroom (by omega)
      refine ⟨g, cap, _, hr, ⟨hlen, .inr ⟨g, cap, _, rfl, hbg, setRow_heap w g cur _ 5 _ hg, hroom, hcm, ?_, ?_⟩⟩, ⟨rfl, rfl, rfl, by simp, fun k _ hk => setRow_other w g k _ (fun e => hk (by rw [e]))⟩, .inl rfl⟩
      · simp only [List.size_toArray, List.length_append, List.length_take, List.length_drop, Array.length_toList, Lib.strCells_length]
        omega
      · have ht' : cur.toList.take n = xs := by simpa using htake
        rw [ht', ← hlen]
        exact List.take_left
    · have holds : ∀ j u, xs[j]? = some u → w.cell? ((⟨g, 0, none⟩ : Addr).add j) = some u := hown.cells (g := g) rfl
      have hr := Lib.run_append_grow_string (P := Try.prog) w 22 9 ty 5 i (.int .u8 0) Try.underlying22 Try.underlying9 hi hz ⟨g, 0, none⟩ n cap xs (by rw [hsize]; omega) holds s (by omega) (by omega) (by rw [hby]; exact growslice_fits (by omega) (by omega))
      have hge := grownCap_ge w (n + s.size) cap 5
      have hcm2 : grownCap w (n + s.size) cap 5 ≤ maxLen := grownCap_le_maxLen w (n + s.size) cap 5 (by unfold maxLen; omega)
      refine ⟨w.heap.size, _, _, hr, ⟨hlen, .inr ⟨w.heap.size, _, _, rfl, hbase, Go.heap_alloc_new w.drew _, hge, hcm2, ?_, ?_⟩⟩, ⟨rfl, rfl, rfl, by simp, fun k hk _ => Below.heap_alloc w.drew _ k hk⟩, .inr rfl⟩
      · have hz1 : (Value.int IntKind.u8 0).cells.size = 1 := rfl
        simp only [Array.size_append, List.size_toArray, size_zeroCells, hz1, hxl, Lib.strCells_length]
        omega
      · simp only [Array.toList_append, List.append_assoc]
        rw [← List.append_assoc, ← hlen]
        exact List.take_left

theorem wpList_append_string_lies (w : World) {ops : Array Oper} {rest : List Oper} {o : Oper} {a : Act} {Q : Exit → Act → World → Prop} (hgd : o.guard = none) (sl x : Operand)
    (ho : o.op = .call { callee := .builtin .append, args := #[sl, x], argTypes := #[22, 9] })
    (base g n cap : Nat) (xs : List Value) (hs : a.eval sl = .slice (some ⟨g, 0, none⟩) n cap) (hown : w.ownsRow base 5 1 (.slice (some ⟨g, 0, none⟩) n cap) n xs) (s : ByteArray) (hx : a.eval x = .string s)
    (hbytes : n + s.size ≤ 100000000) (hbase : base ≤ w.heap.size)
    (h : ∀ g' cap' w', w'.ownsRow base 5 1 (.slice (some ⟨g', 0, none⟩) (n + s.size) cap') (n + s.size) (xs ++ Lib.byteCells s.data.toList) → w.grownBy w' (some g) → (g' = g ∨ g' = w.heap.size) → wpList Try.prog ops Q rest (a.put o.dst (.slice (some ⟨g', 0, none⟩) (n + s.size) cap')) w') : wpList Try.prog ops Q (o :: rest) a w := by
  refine wpList_plain hgd fun K hK => ?_
  obtain ⟨g', cap', w', hr, h2, h3, h4⟩ := run_append_string_lies w base o.type g n cap xs s hown hbytes hbase
  unfold Oper.wp execOp
  simp only [ho, resolve, invoke, builtin, Sem.run_bind, Sem.run_pure, Result.andThen_ok, List.map_toArray, List.map_cons, List.map_nil, hs, hx, hr]
  exact hK _ _ (h g' cap' w' h2 h3 h4)

set_option maxHeartbeats 400000 in
set_option maxRecDepth 100000 in
/-- 'AppendBytes(b, s)' of a string. -/
theorem appendBytes (B : Nat) (v : Value) (xs : List UInt8) (s : ByteArray) (w : World) (hown : w.ownsRow B 5 1 v xs.length (Lib.byteCells xs)) (hB : B ≤ w.heap.size) (hl : xs.length + s.size ≤ 90000000) :
    Calls Try.prog 23 #[v, .string s] w fun e w' => ∃ v', e = .returned v' ∧ App B w w' v v' xs (Enc.uint s.size ++ s.data.toList) := by
  have hu := Enc.uint_len_le s.size (by omega)
  have hu1 := Enc.uint_len_pos s.size
  have HK : Hid (Calls Try.prog 16 #[v, .int .u64 s.size] w fun e w' => ∃ v', e = .returned v' ∧ App B w w' v v' xs (Enc.uint s.size)) := appendUint B v xs s.size w (by omega) hown hB (by omega)
  have HB : Hid (B ≤ w.heap.size) := hB
  go_enter Try.func23, Try.ntmps23
  go_wp2_with fail
  refine HK.out.mono ?_
  rintro e w1 ⟨v1, rfl, h1⟩
  have hs1 := h1.grow.size
  obtain ⟨g, cap, rfl, _, hg⟩ := h1.own.form (by omega)
  have ho1 := h1.own
  clear HK hown
  go_wp2_with (at_builtin; refine wpList_append_string_lies _ rfl (.tmp 9) (.tmp 10) rfl B g _ cap _ rfl ho1 s rfl ?c1 ?c2 ?_)
  case c1 => omega
  case c2 => omega
  intro g2 cap2 w2 hown2 hgrow2 hat2
  have el : s.data.toList.length = s.size := by rw [Array.length_toList]; rfl
  have key : App B w w2 v (.slice (some ⟨g2, 0, none⟩) (xs.length + (Enc.uint s.size).length + s.size) cap2) xs (Enc.uint s.size ++ s.data.toList) := by
    refine h1.trans ⟨?_, hgrow2, ?_⟩
    · rw [Lib.byteCells_append, List.length_append, el]
      exact hown2
    · rcases hat2 with rfl | rfl
      · exact .inl rfl
      · exact .inr ⟨_, rfl, Nat.le_refl _⟩
  clear hown2 hgrow2 hat2 h1 ho1
  go_wp2
  go_ret
  exact ⟨_, rfl, key⟩
end Go.Proofs.Qxb6625815a
