import Derived.Test.Qxb6625815aRead2
import Derived.Laws.IdiomStrings
namespace Go.Proofs.Qxb6625815a
open Go.RowKit

theorem uint0 : Enc.uint 0 = [0] := by rw [Enc.uint_small 0 (by decide)]; rfl

set_option maxHeartbeats 1600000 in
set_option maxRecDepth 100000 in
/-- The walk of 'zzReadNameID', the name not empty, over the calls' answers. -/
theorem nameID_core (g o c N pos q0 q1 ln q3 q4 q5 : Nat) (nm : ByteArray) (id : Int) (w : World) (hid : (id == 0) = false) (hln : 1 ≤ ln) (b1 : q1 + ln ≤ N) (b2 : N ≤ c) (b3 : N ≤ 200000000)
    (C0 : Hid (Calls Try.prog 19 #[.slice (some ⟨g, o, none⟩) N c, .int .i64 pos] w fun e w' => e = .returned (.tuple #[.int .u64 1, .int .i64 q0, .bool true]) ∧ w' = w))
    (C1 : Hid (Calls Try.prog 19 #[.slice (some ⟨g, o, none⟩) N c, .int .i64 q0] w fun e w' => e = .returned (.tuple #[.int .u64 ln, .int .i64 q1, .bool true]) ∧ w' = w))
    (C2 : Hid (Calls Try.prog 19 #[.slice (some ⟨g, o, none⟩) N c, .int .i64 ((q1 : Int) + (ln : Int))] w fun e w' => e = .returned (.tuple #[.int .u64 1, .int .i64 q3, .bool true]) ∧ w' = w))
    (C3 : Hid (Calls Try.prog 18 #[.slice (some ⟨g, o, none⟩) N c, .int .i64 q3] w fun e w' => e = .returned (.tuple #[.int .i64 id, .int .i64 q4, .bool true]) ∧ w' = w))
    (C4 : Hid (Calls Try.prog 19 #[.slice (some ⟨g, o, none⟩) N c, .int .i64 q4] w fun e w' => e = .returned (.tuple #[.int .u64 0, .int .i64 q5, .bool true]) ∧ w' = w))
    (hconv : (convert 22 9 (.slice (some ⟨g, o + q1, none⟩) ln (c - q1))).run Try.prog w = .ok (.string nm) w) :
    Calls Try.prog 20 #[.slice (some ⟨g, o, none⟩) N c, .int .i64 pos] w fun e w' => e = .returned (.tuple #[.string nm, .int .i64 id, .int .i64 q5, .bool true]) ∧ w' = w := by
  have hne : ((ln : Int) == 0) = false := beq_eq_false_iff_ne.2 (by omega)
  go_enter Try.func20, Try.ntmps20
  go_wp2_with fail
  refine wp_loop_rounds 3 ?_
  rw [rounds_succ]
  go_wp2_with fail
  refine C0.out.mono ?_
  rintro e w' ⟨rfl, rfl⟩
  go_wp2_with fail
  refine C1.out.mono ?_
  rintro e w'' ⟨rfl, rfl⟩
  go_wp2_with fail
  clear hconv
  rw [rounds_succ]
  go_wp2_with fail
  refine C2.out.mono ?_
  rintro e w1 ⟨rfl, rfl⟩
  go_wp2_with fail
  refine C3.out.mono ?_
  rintro e w2 ⟨rfl, rfl⟩
  go_wp2_with fail
  rw [rounds_succ]
  go_wp2_with fail
  refine C4.out.mono ?_
  rintro e w3 ⟨rfl, rfl⟩
  go_wp2
  exact bodyPost_ret (v := .tuple #[.string nm, .int .i64 id, .int .i64 q5, .bool true]) (by simp [results, Try.results20, go_sem]) rfl ⟨rfl, rfl⟩

set_option maxHeartbeats 1600000 in
set_option maxRecDepth 100000 in
/-- .. the name empty. -/
theorem nameID_core0 (g o c N pos q0 q4 q5 : Nat) (id : Int) (w : World) (hid : (id == 0) = false)
    (C0 : Hid (Calls Try.prog 19 #[.slice (some ⟨g, o, none⟩) N c, .int .i64 pos] w fun e w' => e = .returned (.tuple #[.int .u64 2, .int .i64 q0, .bool true]) ∧ w' = w))
    (C3 : Hid (Calls Try.prog 18 #[.slice (some ⟨g, o, none⟩) N c, .int .i64 q0] w fun e w' => e = .returned (.tuple #[.int .i64 id, .int .i64 q4, .bool true]) ∧ w' = w))
    (C4 : Hid (Calls Try.prog 19 #[.slice (some ⟨g, o, none⟩) N c, .int .i64 q4] w fun e w' => e = .returned (.tuple #[.int .u64 0, .int .i64 q5, .bool true]) ∧ w' = w)) :
    Calls Try.prog 20 #[.slice (some ⟨g, o, none⟩) N c, .int .i64 pos] w fun e w' => e = .returned (.tuple #[.string ⟨#[]⟩, .int .i64 id, .int .i64 q5, .bool true]) ∧ w' = w := by
  go_enter Try.func20, Try.ntmps20
  go_wp2_with fail
  refine wp_loop_rounds 2 ?_
  rw [rounds_succ]
  go_wp2_with fail
  refine C0.out.mono ?_
  rintro e w' ⟨rfl, rfl⟩
  go_wp2_with fail
  refine C3.out.mono ?_
  rintro e w2 ⟨rfl, rfl⟩
  go_wp2_with fail
  rw [rounds_succ]
  go_wp2_with fail
  refine C4.out.mono ?_
  rintro e w3 ⟨rfl, rfl⟩
  go_wp2
  exact bodyPost_ret (v := .tuple #[.string ⟨#[]⟩, .int .i64 id, .int .i64 q5, .bool true]) (by simp [results, Try.results20, go_sem]) rfl ⟨rfl, rfl⟩

/-- 'zzReadNameID(p, pos)' where appendNameID's bytes lie at pos. -/
theorem readNameID (g o c N : Nat) (ps rest : List UInt8) (pos q : Nat) (nm : ByteArray) (id p : Int) (w : World) (hN : N = ps.length) (hp : p = (pos : Int)) (hq : q = pos + (Enc.nameID nm.data.toList id).length) (hb : Bytes w g o ps) (hl : ps.length ≤ 200000000) (hc : N ≤ c)
    (h0 : -9223372036854775808 ≤ id) (h1 : id ≤ 9223372036854775807) (hid : id ≠ 0) (hd : ps.drop pos = Enc.nameID nm.data.toList id ++ rest) :
    Calls Try.prog 20 #[.slice (some ⟨g, o, none⟩) N c, .int .i64 p] w fun e w' => e = .returned (.tuple #[.string nm, .int .i64 id, .int .i64 q, .bool true]) ∧ w' = w := by
  subst hp
  have hidb : (id == 0) = false := beq_eq_false_iff_ne.2 hid
  have e0 : ([0] : List UInt8) = Enc.uint 0 := uint0.symm
  by_cases hnm : nm.data.toList = []
  · have en : nm = ⟨#[]⟩ := by obtain ⟨⟨l⟩⟩ := nm; simp only at hnm; rw [hnm]
    rw [hnm, Enc.nameID_nil, e0] at hd hq
    subst en
    simp only [List.append_assoc] at hd
    have d1 := drop_next hd
    have d2 := drop_next d1
    simp only [List.length_append] at hq
    refine nameID_core0 g o c N pos (pos + (Enc.uint 2).length) (pos + (Enc.uint 2).length + (Enc.int id).length) q id w hidb ?_ ?_ ?_
    · exact readUintAt g o c N ps _ pos 2 _ _ w hN rfl rfl hb hl (by decide) hd
    · exact readInt g o c N ps _ _ _ id _ w hN rfl rfl hb hl h0 h1 d1
    · exact readUintAt g o c N ps _ _ 0 _ _ w hN rfl (by omega) hb hl (by decide) d2
  · have es : nm.data.toList.length = nm.size := by rw [Array.length_toList]; rfl
    rw [Enc.nameID_some _ _ hnm, e0] at hd hq
    simp only [List.append_assoc] at hd
    have d1 := drop_next hd
    have d2 := drop_next d1
    have d3 := drop_next d2
    have d4 := drop_next d3
    have d5 := drop_next d4
    simp only [List.length_append] at hq
    have hpos : 0 < nm.data.toList.length := by cases h : nm.data.toList with | nil => exact absurd h hnm | cons => simp
    have hlen := drop_len d2 hpos
    rw [es] at *
    refine nameID_core g o c N pos (pos + (Enc.uint 1).length) (pos + (Enc.uint 1).length + (Enc.uint nm.size).length) nm.size (pos + (Enc.uint 1).length + (Enc.uint nm.size).length + nm.size + (Enc.uint 1).length) (pos + (Enc.uint 1).length + (Enc.uint nm.size).length + nm.size + (Enc.uint 1).length + (Enc.int id).length) q nm id w hidb (by omega) (by omega) hc (by omega) ?_ ?_ ?_ ?_ ?_ ?_
    · exact readUintAt g o c N ps _ pos 1 _ _ w hN rfl rfl hb hl (by decide) hd
    · exact readUintAt g o c N ps _ _ nm.size _ _ w hN rfl rfl hb hl (by omega) d1
    · exact readUintAt g o c N ps _ _ 1 _ _ w hN (by push_cast; rfl) rfl hb hl (by decide) d3
    · exact readInt g o c N ps _ _ _ id _ w hN rfl rfl hb hl h0 h1 d4
    · exact readUintAt g o c N ps _ _ 0 _ _ w hN rfl (by omega) hb hl (by decide) d5
    · have := run_convert_bytes_back (P := Try.prog) w 22 9 5 ⟨g, o + (pos + (Enc.uint 1).length + (Enc.uint nm.size).length), none⟩ (c - (pos + (Enc.uint 1).length + (Enc.uint nm.size).length)) nm.data.toList Try.underlying22 Try.underlying5 Try.underlying9 ?_
      · rw [es] at this; exact this
      · intro j hj
        have ha : (⟨g, o + (pos + (Enc.uint 1).length + (Enc.uint nm.size).length), none⟩ : Addr).add j = ⟨g, o + ((pos + (Enc.uint 1).length + (Enc.uint nm.size).length) + j), none⟩ := by
          unfold Addr.add; split
          · simp_all
          · simp; omega
        rw [ha]
        exact hb _ _ (drop_get d2 j hj)
end Go.Proofs.Qxb6625815a
