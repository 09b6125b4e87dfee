import Derived.Test.Qxb6625815aName
namespace Go.Proofs.Qxb6625815a
open Go.RowKit

/-- The bytes ps lie behind ⟨g, o⟩. -/
def Bytes (w : World) (g o : Nat) (ps : List UInt8) : Prop := ∀ j b, ps[j]? = some b → w.cell? ⟨g, o + j, none⟩ = some (.int .u8 (b.toNat : Int))

theorem drop_get {ps pre rest : List UInt8} {pos : Nat} (h : ps.drop pos = pre ++ rest) (j : Nat) (hj : j < pre.length) : ps[pos + j]? = some (pre[j]) := by
  have := congrArg (fun l => l[j]?) h
  simp only [List.getElem?_drop] at this
  rw [this, List.getElem?_append_left hj, List.getElem?_eq_getElem hj]
theorem drop_len {ps pre rest : List UInt8} {pos : Nat} (h : ps.drop pos = pre ++ rest) (hp : 0 < pre.length) : pos + pre.length + rest.length = ps.length := by
  have := congrArg List.length h
  simp only [List.length_drop, List.length_append] at this
  omega
theorem drop_next {ps pre rest : List UInt8} {pos : Nat} (h : ps.drop pos = pre ++ rest) : ps.drop (pos + pre.length) = rest := by
  rw [← List.drop_drop, h, List.drop_left]

theorem or_step (vk fk : Nat) (hb : vk < 72057594037927936) (hfk : fk < 256) : Value.int IntKind.u64 (bits BinOp.or IntKind.u64 ((vk : Int) * 256) (fk : Int)) = Value.int IntKind.u64 ((vk * 256 + fk : Nat) : Int) := by
  rw [bits_join .u64 64 (by decide) wraps_u64 8 _ _ (by omega) (by omega) (by omega) (by omega) (by omega) (by omega)]
  congr 1
theorem ret3 {p q : Value} {k : IntKind} {a b : Int} (h : a = b) : Ending.returned (.tuple #[p, .int k a, q]) = .returned (.tuple #[p, .int k b, q]) := by rw [h]

set_option maxHeartbeats 800000 in
set_option maxRecDepth 100000 in
theorem readUint_small (g o c : Nat) (ps rest : List UInt8) (pos x : Nat) (w : World) (hb : Bytes w g o ps) (hl : ps.length ≤ 200000000) (hx : x < 128) (hd : ps.drop pos = Enc.uint x ++ rest) :
    Calls Try.prog 19 #[.slice (some ⟨g, o, none⟩) ps.length c, .int .i64 pos] w fun e w' => e = .returned (.tuple #[.int .u64 x, .int .i64 (pos + (Enc.uint x).length : Nat), .bool true]) ∧ w' = w := by
  rw [Enc.uint_small x hx] at *
  have hlen := drop_len hd (by simp)
  have h0 := hb _ _ (drop_get hd 0 (by simp))
  have e0 : ((([x.toUInt8] : List UInt8)[0]'(by simp)).toNat : Int) = (x : Int) := by simp; omega
  rw [e0, Nat.add_zero] at h0
  simp only [List.length_cons, List.length_nil, Nat.zero_add] at hlen ⊢
  clear hd hb e0
  generalize ps.length = N at *
  go_enter Try.func19, Try.ntmps19
  go_wp2
  go_ret3
  exact ⟨rfl, rfl⟩

set_option maxHeartbeats 800000 in
set_option maxRecDepth 100000 in
/-- The bytes f 0 .. f (n-1) spell x; V k: what the first k spell. -/
theorem readUint_core (g o c N pos n x : Nat) (f V : Nat → Nat) (w : World) (n1 : 1 ≤ n) (n2 : n ≤ 8) (hN : pos + n + 1 ≤ N) (hl : N ≤ 200000000) (hx : 128 ≤ x)
    (h0 : w.cell? ⟨g, o + pos, none⟩ = some (.int .u8 (256 - (n : Int)))) (hj : ∀ j, j < n → w.cell? ⟨g, o + (pos + 1 + j), none⟩ = some (.int .u8 (f j : Int)))
    (hf0 : f 0 ≠ 0) (hf : ∀ j, f j < 256) (V0 : V 0 = 0) (VS : ∀ k, k < n → V (k + 1) = V k * 256 + f k) (Vn : V n = x) (Vb : ∀ k, k < n → V k < 72057594037927936) :
    Calls Try.prog 19 #[.slice (some ⟨g, o, none⟩) N c, .int .i64 pos] w fun e w' => e = .returned (.tuple #[.int .u64 x, .int .i64 (pos + (n + 1) : Nat), .bool true]) ∧ w' = w := by
  have hz : w.cell? ⟨g, o + (pos + 1), none⟩ = some (.int .u8 (f 0 : Int)) := hj 0 (by omega)
  have hzb : ((f 0 : Int) == 0) = false := beq_eq_false_iff_ne.2 (by omega)
  have hf00 := hf 0
  have HJ : Hid (∀ j, j < n → w.cell? ⟨g, o + (pos + 1 + j), none⟩ = some (.int .u8 (f j : Int))) := hj
  have HF : Hid (∀ j, f j < 256) := hf
  have HS : Hid (∀ k, k < n → V (k + 1) = V k * 256 + f k) := VS
  have HB : Hid (∀ k, k < n → V k < 72057594037927936) := Vb
  have H0 : Hid (V 0 = 0) := V0
  have HN : Hid (V n = x) := Vn
  clear hj hf VS Vb V0 Vn hf0
  generalize f 0 = f0 at *
  go_enter Try.func19, Try.ntmps19
  go_wp2_with fail
  go_loop [9, 10] (fun xx i => ∃ k : Nat, k ≤ n ∧ i = .int .i64 k ∧ xx = .int .u64 (V k : Int)) (fun _ i => n - (intOf i).toNat)
  case atStart => exact ⟨0, by omega, rfl, by rw [H0.out]; rfl⟩
  case round =>
    obtain ⟨k, hk, rfl, rfl⟩ := hrel
    by_cases hlt : k < n
    · have hc := HJ.out k hlt
      have hs := HS.out k hlt
      have hb := HB.out k hlt
      have hfk := HF.out k
      have HSK : Hid (V (k + 1) = V k * 256 + f k) := hs
      clear hs
      generalize f k = fk at *
      generalize V k = vk at *
      go_wp2
      go_round
      case rel => exact ⟨k + 1, by omega, by go_num, by rw [HSK.out]; exact or_step vk fk hb hfk⟩
      case measure => simp [intOf]; omega
    · have ek : n = k := by omega
      subst ek
      rw [HN.out]
      go_wp2
      go_ret3
      exact ⟨ret3 (by omega), rfl⟩

theorem pow256 (k : Nat) (h : k ≤ 7) : 256 ^ k ≤ 72057594037927936 := Nat.le_trans (Nat.pow_le_pow_right (by decide) h) (by decide)

/-- 'zzReadUint(p, pos)' where AppendUint's bytes of x lie at pos. -/
theorem readUint (g o c : Nat) (ps rest : List UInt8) (pos x : Nat) (w : World) (hb : Bytes w g o ps) (hl : ps.length ≤ 200000000) (hx2 : x < 18446744073709551616) (hd : ps.drop pos = Enc.uint x ++ rest) :
    Calls Try.prog 19 #[.slice (some ⟨g, o, none⟩) ps.length c, .int .i64 pos] w fun e w' => e = .returned (.tuple #[.int .u64 x, .int .i64 (pos + (Enc.uint x).length : Nat), .bool true]) ∧ w' = w := by
  by_cases hx : x < 128
  · exact readUint_small g o c ps rest pos x w hb hl hx hd
  have hx : 128 ≤ x := by omega
  obtain ⟨n1, n2, b1, b2⟩ := Enc.nb_spec x hx hx2
  obtain ⟨c0, cr, hc0, hc1⟩ := Enc.head_ne x hx hx2
  have hlen := drop_len hd (by have := Enc.uint_len_pos x; omega)
  rw [Enc.uint_big x hx] at *
  have el := Lib.beBytes_length (Enc.nb x) x
  have h0 := hb _ _ (drop_get hd 0 (by simp))
  have e0 : ((((256 - Enc.nb x).toUInt8 :: Lib.beBytes (Enc.nb x) x)[0]'(by simp)).toNat : Int) = 256 - (Enc.nb x : Int) := by
    simp only [List.getElem_cons_zero, Nat.toUInt8, UInt8.toNat_ofNat']; omega
  rw [e0, Nat.add_zero] at h0
  rw [List.length_cons, el] at hlen ⊢
  refine readUint_core g o c ps.length pos (Enc.nb x) x (fun j => ((Lib.beBytes (Enc.nb x) x).getD j 0).toNat) (fun k => Lib.beNat ((Lib.beBytes (Enc.nb x) x).take k)) w n1 n2 (by omega) hl hx h0 ?_ ?_ ?_ ?_ ?_ ?_ ?_
  · intro j hj
    have := hb _ _ (drop_get hd (j + 1) (by simp [el]; exact hj))
    rw [show pos + (j + 1) = pos + 1 + j by omega] at this
    simpa [List.getD, el, hj] using this
  · simp only [hc0, List.getD_cons_zero]; exact hc1
  · intro j; exact UInt8.toNat_lt _
  · rfl
  · intro k hk
    show Lib.beNat _ = _
    rw [Enc.beNat_take_succ _ k (by omega)]
    simp [List.getD, el, hk]
  · show Lib.beNat _ = x
    rw [List.take_of_length_le (by omega)]
    exact Lib.beNat_beBytes _ _ b2
  · intro k hk
    have h1 := Enc.beNat_lt ((Lib.beBytes (Enc.nb x) x).take k)
    have h2 := pow256 k (by omega)
    rw [List.length_take, el, Nat.min_eq_left (by omega)] at h1
    show Lib.beNat _ < _
    omega
end Go.Proofs.Qxb6625815a
