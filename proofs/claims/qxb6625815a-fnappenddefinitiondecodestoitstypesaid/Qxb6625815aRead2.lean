import Derived.Test.Qxb6625815aRead
namespace Go.Proofs.Qxb6625815a
open Go.RowKit

theorem readUintAt (g o c N : Nat) (ps rest : List UInt8) (pos x q : Nat) (p : Int) (w : World) (hN : N = ps.length) (hp : p = (pos : Int)) (hq : q = pos + (Enc.uint x).length) (hb : Bytes w g o ps) (hl : ps.length ≤ 200000000) (hx2 : x < 18446744073709551616) (hd : ps.drop pos = Enc.uint x ++ rest) :
    Calls Try.prog 19 #[.slice (some ⟨g, o, none⟩) N c, .int .i64 p] w fun e w' => e = .returned (.tuple #[.int .u64 x, .int .i64 q, .bool true]) ∧ w' = w := by
  subst hN
  subst hp
  subst hq
  exact readUint g o c ps rest pos x w hb hl hx2 hd

set_option maxHeartbeats 800000 in
set_option maxRecDepth 100000 in
/-- 'zzReadInt(p, pos)' where AppendInt's bytes of i lie at pos. -/
theorem readInt (g o c N : Nat) (ps rest : List UInt8) (pos q : Nat) (i p : Int) (w : World) (hN : N = ps.length) (hp : p = (pos : Int)) (hq : q = pos + (Enc.int i).length) (hb : Bytes w g o ps) (hl : ps.length ≤ 200000000)
    (h0 : -9223372036854775808 ≤ i) (h1 : i ≤ 9223372036854775807) (hd : ps.drop pos = Enc.int i ++ rest) :
    Calls Try.prog 18 #[.slice (some ⟨g, o, none⟩) N c, .int .i64 p] w fun e w' => e = .returned (.tuple #[.int .i64 i, .int .i64 q, .bool true]) ∧ w' = w := by
  have hz := Lib.zigzag_lt h0 h1
  have hR := readUintAt g o c N ps rest pos (Lib.zigzag i) q p w hN hp hq hb hl hz hd
  have e1 : bits .and .u64 ((Lib.zigzag i : Nat) : Int) 1 = ((Lib.zigzag i : Nat) : Int) % 2 := Lib.u64_and1 _ (by omega) (by omega)
  clear hN hp hq hb hl hd
  by_cases hi : i < 0
  · have ez : Lib.zigzag i = (-2 * i - 1).toNat := by unfold Lib.zigzag; rw [if_neg (by omega)]
    have e2 : (bits .and .u64 ((Lib.zigzag i : Nat) : Int) 1 == 1) = true := by rw [e1, beq_iff_eq]; omega
    have e3 : bits .xor .i64 (-1) (((Lib.zigzag i : Nat) : Int) / 2) = i := by
      rw [show (((Lib.zigzag i : Nat) : Int) / 2) = (((Lib.zigzag i) / 2 : Nat) : Int) by omega, Lib.i64_not _ (by omega)]
      omega
    have H3 : Hid (bits .xor .i64 (-1) (((Lib.zigzag i : Nat) : Int) / 2) = i) := e3
    clear e1 ez e3
    generalize Lib.zigzag i = u at *
    go_enter Try.func18, Try.ntmps18
    go_wp2_with fail
    refine hR.mono ?_
    rintro e w' ⟨rfl, rfl⟩
    clear hR
    go_wp2
    go_ret3
    exact ⟨by rw [← H3.out]; rfl, rfl⟩
  · have ez : Lib.zigzag i = (2 * i).toNat := by unfold Lib.zigzag; rw [if_pos (by omega)]
    have e2 : (bits .and .u64 ((Lib.zigzag i : Nat) : Int) 1 == 1) = false := by rw [e1]; exact beq_eq_false_iff_ne.2 (by omega)
    have H3 : Hid (((Lib.zigzag i : Nat) : Int) / 2 = i) := by show _ = _; omega
    clear e1 ez
    generalize Lib.zigzag i = u at *
    go_enter Try.func18, Try.ntmps18
    go_wp2_with fail
    refine hR.mono ?_
    rintro e w' ⟨rfl, rfl⟩
    clear hR
    go_wp2
    go_ret3
    exact ⟨by rw [← H3.out]; rfl, rfl⟩
end Go.Proofs.Qxb6625815a
