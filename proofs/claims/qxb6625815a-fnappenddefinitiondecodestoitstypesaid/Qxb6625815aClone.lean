import Derived.Test.Qxb6625815aRead
import Derived.Lib.SliceRun
import Derived.Laws.CopyOwn
namespace Go.Proofs.Qxb6625815a
open Go.RowKit

set_option maxRecDepth 100000 in
theorem clone_nil (w : World) : Calls Try.prog 7 #[.slice none 0 0] w fun e w' => e = .returned (.slice none 0 0) ∧ w' = w := by
  have hnil := fun w => Lib.run_eql_slice_nil (P := Try.prog) w 22 5 none 0 0 0 0 Try.underlying22
  go_enter Try.func7, Try.ntmps7
  go_wp2
  go_ret
  exact ⟨rfl, rfl⟩

theorem splice_all (cur cs : List Value) (h : cur.length = cs.length) : splice cur 0 cs = cs := by
  simp [splice, h]

set_option maxHeartbeats 800000 in
set_option maxRecDepth 100000 in
/-- 'zzCloneBytes(p)', p not nil. -/
theorem clone_some (ad : Addr) (n c : Nat) (ps : List UInt8) (w : World) (hn : ps.length = n) (hn1 : n ≤ 1048576) (hc : ∀ j u, (Lib.byteCells ps)[j]? = some u → w.cell? (ad.add j) = some u) :
    Calls Try.prog 7 #[.slice (some ad) n c] w fun e w' => e = .returned (.slice (some ⟨w.heap.size, 0, none⟩) n n) ∧ w'.heap[w.heap.size]? = some (.cells (Lib.byteCells ps).toArray 5 (0, 0)) ∧ Below w.heap.size w w' := by
  have hnil := fun w => Lib.run_eql_slice_nil (P := Try.prog) w 22 5 (some ad) n c 0 0 Try.underlying22
  obtain ⟨i0, hi, hz0, hz1, hz2⟩ := info_parts Try.info5
  have HL : Hid ((Lib.byteCells ps).length = n) := by show _ = _; rw [Lib.byteCells_length, hn]
  have HC : Hid (∀ j u, (Lib.byteCells ps)[j]? = some u → w.cell? (ad.add j) = some u) := hc
  clear hn hc
  go_enter Try.func7, Try.ntmps7
  go_wp2_with (at_make; refine wpList_make_full _ rfl (.tmp 7) (.tmp 7) 22 rfl w.heap.size 5 i0 (.int .u8 0) 1 Try.underlying22 hi hz0 hz1 .i64 .i64 _ _ n rfl rfl (by omega) (by omega) ?b2 ?b3 ?b4 ?_)
  case b2 => rw [hz2]; omega
  case b3 => unfold maxLen; omega
  case b4 => omega
  intro w1 hown hgrow
  obtain ⟨cur, hcur, hsz⟩ : ∃ cur : Array Value, w1.heap[w.heap.size]? = some (.cells cur 5 (0, 0)) ∧ cur.size = n := by
    rcases hown.2 with ⟨h, _⟩ | ⟨g, cap, cur, hv, _, hg, _, _, hs, _⟩
    · cases h
    · simp only [Value.slice.injEq, Option.some.injEq, Addr.mk.injEq, true_and, and_true] at hv
      obtain ⟨rfl, rfl⟩ := hv
      exact ⟨cur, hg, by omega⟩
  have hbel : Below w.heap.size w w1 := (Below.refl _ _).grown hgrow (Nat.le_refl _) (fun k h => by cases h)
  have HC1 : Hid (∀ j u, (Lib.byteCells ps)[j]? = some u → w1.cell? (ad.add j) = some u) := fun j u hj => by
    have := HC.out j u hj
    exact (hbel.cell (World.block_lt_of_cell? w _ this)).trans this
  clear hown hgrow hnil
  go_wp2_with (refine wpList_copy_splice rfl (.tmp 9) (.tmp 10) 22 22 rfl 5 Try.underlying22 ?s1 _ _ n n n c rfl rfl w.heap.size 0 cur.toList 5 ?s2 (Lib.byteCells ps) ?s3 ?s4 ?s5 ?s6 w.heap.size w hbel ?s7 ?_)
  case s1 => rw [hi]; simp [hz1]
  case s2 => simpa using hcur
  case s3 => rw [HL.out]; exact (Nat.min_self n).symm
  case s4 => first | exact fun _ => HC1.out | exact fun _ => ⟨rfl, ad, rfl, HC1.out⟩
  case s5 => rw [HL.out]; simp [hsz]
  case s6 => intro v hv; simp only [Lib.byteCells, List.mem_map] at hv; obtain ⟨b, _, rfl⟩ := hv; rfl
  case s7 => exact Nat.le_refl _
  intro w2 hblk hbel2
  rw [splice_all _ _ (by rw [HL.out]; simp [hsz])] at hblk
  clear hcur hbel HC1
  go_wp2
  go_ret
  exact ⟨rfl, hblk.out, hbel2⟩

set_option maxHeartbeats 800000 in
set_option maxRecDepth 100000 in
/-- 'zzBytesEqual(a, c)' of two slices that hold the same bytes. -/
theorem equal_yes (ga oa ca gc oc cc n : Nat) (ps : List UInt8) (w : World) (hn : ps.length = n) (hn1 : n ≤ 1048576) (ha : Bytes w ga oa ps) (hc : Bytes w gc oc ps) :
    Calls Try.prog 10 #[.slice (some ⟨ga, oa, none⟩) n ca, .slice (some ⟨gc, oc, none⟩) n cc] w fun e w' => e = .returned (.bool true) ∧ ∃ q, w' = w.drewN q := by
  have HN : Hid (ps.length = n) := hn
  have HA : Hid (Bytes w ga oa ps) := ha
  have HC : Hid (Bytes w gc oc ps) := hc
  clear hn ha hc
  go_enter Try.func10, Try.ntmps10
  go_wp2_with fail
  go_loopw [5] (fun i wr => ∃ k q : Nat, k ≤ n ∧ i = .int .i64 k ∧ wr = w.drewN q) (fun i _ => n - (intOf i).toNat)
  case atStart => exact ⟨0, 0, by omega, rfl, rfl⟩
  case round =>
    obtain ⟨k, q, hk, rfl, rfl⟩ := hrel
    by_cases hlt : k < n
    · obtain ⟨b, hb⟩ : ∃ b, ps[k]? = some b := ⟨_, List.getElem?_eq_getElem (by rw [HN.out]; exact hlt)⟩
      have a1 := HA.out k b hb
      have a2 := HC.out k b hb
      clear hb
      generalize (b.toNat : Int) = x at *
      go_wp2_with fail
      go_quiet (fail)
      go_wp2
      go_roundw
      case rel => exact ⟨k + 1, _, by omega, by go_num, rfl⟩
      case measure => simp [intOf]; omega
    · go_wp2
      go_ret
      exact ⟨rfl, _, rfl⟩

set_option maxHeartbeats 800000 in
set_option maxRecDepth 100000 in
theorem equal_none (a c : Option Addr) (ca cc : Nat) (w : World) :
    Calls Try.prog 10 #[.slice a 0 ca, .slice c 0 cc] w fun e w' => e = .returned (.bool true) ∧ ∃ q, w' = w.drewN q := by
  go_enter Try.func10, Try.ntmps10
  go_wp2_with fail
  refine wp_loop_rounds 1 ?_
  rw [rounds_succ]
  go_wp2
  go_ret
  exact ⟨rfl, 0, rfl⟩
end Go.Proofs.Qxb6625815a
