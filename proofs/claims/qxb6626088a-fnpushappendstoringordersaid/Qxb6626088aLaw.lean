import Derived.Test.Qxb6626088aInv
import Derived.Lib.Builder
namespace Go.Proofs.Qxb6626088a
open Go.RowKit

theorem Try.info27 : (Try.prog.info? 27).map (fun i => (i.zero, i.size, i.bytes)) = some (some (.pointer none), 1, 8) := by kernel_rfl
theorem Try.has57 : (Try.prog.info? 57).isSome = true := by kernel_rfl
theorem neq_same (w : World) (a : Addr) : (binOp .neq 27 (.pointer (some a)) (.pointer (some a))).run Try.prog w = .ok (.bool false) w := by
  obtain ⟨j, hj⟩ := Option.isSome_iff_exists.1 Try.has57
  exact Lib.run_neq_ptr_same w a Try.underlying27 hj
theorem Fr.cell {w w' : World} (h : Fr w w' (fun _ => False)) (a : Addr) (ha : a.block < w.heap.size) : w'.cell? a = w.cell? a := World.cell?_of_block (h.block _ ha id)
theorem Fr.undrew {w w' : World} {S : Nat → Prop} (h : Fr w.drew w' S) : Fr w w' S := ⟨h.os, h.tape, h.output, h.size, h.block⟩
theorem snoc_at (bs : List Nat) (k b : Nat) (h : bs.length = k) : (bs ++ [b])[k]? = some b := by subst h; simp

def jF (len m : Nat) : Nat := if m = len then 0 else m
def jB (len m : Nat) : Nat := if m = 0 then 0 else len - m
theorem jF_at {len m : Nat} (h : m < len) : jF len m = m := if_neg (by omega)
theorem jF_end (len : Nat) : jF len len = 0 := if_pos rfl
theorem jF_next (len m : Nat) : nextOf len m = jF len (m + 1) := rfl
theorem next_lt {len m : Nat} (h : m < len) : nextOf len m < len := by unfold nextOf; split <;> omega
theorem jB_zero (len : Nat) : jB len 0 = 0 := if_pos rfl
theorem jB_lt {len m : Nat} (h : m < len) : jB len m < len := by unfold jB; split <;> omega
theorem jB_prev {len m : Nat} (h : m < len) : prevOf len (jB len m) = len - 1 - m := by
  unfold prevOf jB
  by_cases h0 : m = 0
  · simp [h0]
  · rw [if_neg h0, if_neg (by omega)]; omega
theorem jB_next {len m : Nat} (h : m < len) : jB len (m + 1) = len - 1 - m := by unfold jB; rw [if_neg (by omega)]; omega
theorem jB_end {len : Nat} (h : 0 < len) : jB len len = 0 := by unfold jB; rw [if_neg (by omega)]; omega

set_option maxHeartbeats 1600000 in
set_option maxRecDepth 100000 in
theorem law (bk off len cap : Nat) (sl : Nat → Int) (hp : Nat → Bool) (w : World) (hl : len ≤ 65536) (h0 : 0 < len)
    (hc : ∀ k, k < len → w.cell? ⟨bk, off + k * 2, none⟩ = some (.int .i64 (sl k)) ∧ w.cell? ⟨bk, off + k * 2 + 1, none⟩ = some (.bool (hp k))) (hbk : bk < w.heap.size) :
    Calls Try.prog 3 #[.slice (some ⟨bk, off, none⟩) len cap] w fun e w' => e = .returned (.bool true) ∧ Below w.heap.size w w' := by
  obtain ⟨i0, hi, hz0, hz1, hz2⟩ := info_parts Try.info27
  have hptr := neq_same
  have HC : Hid (∀ k, k < len → w.cell? ⟨bk, off + k * 2, none⟩ = some (.int .i64 (sl k)) ∧ w.cell? ⟨bk, off + k * 2 + 1, none⟩ = some (.bool (hp k))) := hc
  clear hc
  go_enter Try.func3, Try.ntmps3
  go_wp2_with fail
  refine (bytes_yes _ _ _ _ (by omega)).mono ?_
  rintro e w' ⟨rfl, rfl⟩
  go_wp2_with fail
  refine (newLine_any _).mono ?_
  rintro e w1 ⟨rfl, rfl⟩
  go_wp2_with (at_make; refine wpList_make_full _ rfl (.tmp 35) (.tmp 35) 26 rfl w'.heap.size 27 i0 (.pointer none) 1 Try.underlying26 hi hz0 hz1 .i64 .i64 _ _ len rfl rfl (by omega) (by omega) ?b2 ?b3 ?b4 ?_)
  case b2 => rw [hz2]; omega
  case b3 => unfold maxLen; omega
  case b4 => simp
  intro w2 hown hgrow
  have hI : Inv w' w2 w'.heap.size (w'.heap.size + 1) len 0 (.slice none 0 0) [] [] := Inv.start w' len w2 (by simpa [Value.cells] using hown) hgrow
  clear hown hgrow
  have hsz2 : w'.heap.size ≤ w2.heap.size := hI.low2
  generalize hE : w'.heap.size + 1 = E at hI ⊢
  generalize hL : w'.heap.size = L at hI ⊢
  have HLE : Hid (w'.heap.size + 1 = E ∧ w'.heap.size = L) := ⟨hE, hL⟩
  clear hE hL
  go_wp2_with fail
  go_loopw [6] (fun i wr => ∃ k : Nat, k ≤ len ∧ i = .int .i64 k ∧ ∃ lv ps bs, Inv w' wr L E len k lv ps bs ∧ (k = 0 → lv = .slice none 0 0)) (fun i _ => len - (intOf i).toNat)
  case atStart => exact ⟨0, by omega, rfl, _, _, _, hI, fun _ => rfl⟩
  case round =>
    clear hI hsz2
    obtain ⟨k, hk, rfl, lv, ps, bs, hI, hnil⟩ := hrel
    by_cases hlt : k < len
    · obtain ⟨c1, c2⟩ := HC.out k hlt
      have hlow := hI.low2
      rw [← hI.low.cell (by exact hbk)] at c1 c2
      have hbr : bk < wr.heap.size := by omega
      generalize sl k = s at c1
      generalize hp k = hh at c2
      have b1 : (k : Int) < len := by omega
      go_wp2_with fail
      go_region_held3 (fun v : World => v.cell? ⟨bk, off + k * 2, none⟩ = some (.int .i64 s) ∧ v.cell? ⟨bk, off + k * 2 + 1, none⟩ = some (.bool hh))
        (first | go_keep | (go_split_ands; refine ⟨?_, ?_⟩ <;> (rw [hF1.cell _ (by exact hbr)]; assumption)))
        ((first | (go_at_call 7; refine (new_any _ _ _).mono ?_; rintro e w1 ⟨rfl, hE1, hF1, _⟩)))
      have hF1 := hF1.undrew
      have hI1 := hI.keep hF1
      obtain ⟨⟨ov, o1⟩, o2⟩ := hI1.open k hlt
      obtain ⟨m1, m2, m3⟩ := hI.mid hE1 hF1 (.pointer (some ⟨wr.heap.size, 0, none⟩))
      go_wp2_with fail
      refine (zpush_any w'.heap.size L wr.heap.size k lv ps bs s hh _ m1 hI.ring hI.len (by omega) m2 m3 hnil).mono ?_
      rintro e w3 ⟨rfl, g3, cap3, ps3, l3, r3, e3, f3⟩
      have hI3 := hI.step hlt hE1 hF1 l3 r3 e3 f3
      have hb3 := snoc_at bs k wr.heap.size hI.len
      clear m1 m2 m3 o1 o2 hI1 c1 c2
      go_wp2_with fail
      refine (len_any _ L _ (k + 1) cap3 ps3 _ l3).mono ?_
      rintro e w4 ⟨rfl, rfl⟩
      go_wp2_with fail
      refine (last_any _ L g3 (k + 1) cap3 k ps3 _ _ l3 r3 (by simp [hI.len]) rfl wr.heap.size hb3).mono ?_
      rintro e w5 ⟨rfl, rfl⟩
      go_wp2_with fail
      go_roundw
      case rel => exact ⟨k + 1, by omega, by go_num, _, _, _, hI3, fun h => by omega⟩
      case measure => simp [intOf]; omega
    · have ek : len = k := by omega
      subst ek
      have hlen := hI.len
      have hrl := hI.ring.1
      obtain ⟨g, cp, rfl⟩ : ∃ g c, lv = .slice (some ⟨g, 0, none⟩) len c := by
        rcases hI.line.own.2 with ⟨_, e2⟩ | ⟨g0, c0, _, hv, _⟩
        · omega
        · exact ⟨g0, c0, by rw [hv]; congr 1; omega⟩
      have HAT : Hid (∀ j, j < len → ∃ b, bs[j]? = some b) := fun j hj => ⟨bs[j]'(by omega), by simp⟩
      have HR : Hid (Ring ps bs) := hI.ring
      have HN : Hid (bs.length = len) := hlen
      have HI : Hid (Inv w' wr L E len len (.slice (some ⟨g, 0, none⟩) len cp) ps bs) := hI
      clear hI hnil hrl hlen hlt
      go_wp2_with fail
      go_loopw [8] (fun i wq => ∃ j : Nat, j ≤ len ∧ i = .int .i64 j ∧ Inv w' wq L E len len (.slice (some ⟨g, 0, none⟩) len cp) ps bs) (fun i _ => len - (intOf i).toNat)
      case atStart => exact ⟨0, by omega, rfl, HI.out⟩
      case round =>
        obtain ⟨j, hj, rfl, hJ⟩ := hrel
        by_cases hjl : j < len
        · obtain ⟨b, hb⟩ := HAT.out j hjl
          have cE := hJ.cell j b hb
          have b1 : (j : Int) < len := by omega
          go_wp2_with fail
          refine (slot_any b j false _ (hJ.ents j b hb)).mono ?_
          rintro e w3 ⟨rfl, f3⟩
          have hJ3 := hJ.keep f3
          clear cE
          go_wp2_with fail
          refine (place_any _ L g len cp j ps bs _ hJ3.line HR.out HN.out hjl b hb).mono ?_
          rintro e w4 ⟨rfl, f4⟩
          have hJ4 := hJ3.keep f4
          have cE := hJ4.cell j b hb
          generalize prevOf len j = p0
          generalize nextOf len j = q0
          go_wp2_with fail
          go_roundw
          case rel => exact ⟨j + 1, by omega, by go_num, hJ4⟩
          case measure => simp [intOf]; omega
        · have ej : len = j := by omega
          subst ej
          have hz : ((len : Int) == 0) = false := by simp; omega
          go_wp2_with fail
          go_loopw [14, 15] (fun jj kk wq => ∃ m : Nat, m ≤ len ∧ kk = .int .i64 m ∧ jj = .int .i64 (jF len m : Nat) ∧ Inv w' wq L E len len (.slice (some ⟨g, 0, none⟩) len cp) ps bs) (fun _ kk _ => len - (intOf kk).toNat)
          case atStart => exact ⟨0, by omega, rfl, by rw [jF_at h0]; rfl, hJ⟩
          case round =>
            clear hJ
            obtain ⟨m, hm, rfl, rfl, hJ⟩ := hrel
            by_cases hml : m < len
            · obtain ⟨b, hb⟩ := HAT.out m hml
              rw [jF_at hml]
              have b1 : (m : Int) < len := by omega
              go_wp2_with fail
              refine (place_any _ L g len cp m ps bs _ hJ.line HR.out HN.out hml b hb).mono ?_
              rintro e w4 ⟨rfl, f4⟩
              have hJ4 := hJ.keep f4
              have cE := hJ4.cell m b hb
              have hql := next_lt hml
              have HQ : Hid (nextOf len m = jF len (m + 1)) := jF_next len m
              generalize prevOf len m = p0
              generalize nextOf len m = q at *
              have b2 : (q : Int) < len := by omega
              have b3 : ¬ len ≤ q := by omega
              have b4 : ¬ ((q : Int) < 0) := by omega
              have b5 : (0 : Int) ≤ q := by omega
              clear hJ f4 hql
              go_wp2_with fail
              go_roundw
              case rel => exact ⟨m + 1, by omega, by go_num, by rw [HQ.out], hJ4⟩
              case measure => simp [intOf]; omega
            · have em : len = m := by omega
              subst em
              rw [show ((jF len len : Nat) : Int) = 0 by rw [jF_end]; rfl]
              go_wp2_with fail
              go_loopw [14, 19] (fun jj kk wq => ∃ m : Nat, m ≤ len ∧ kk = .int .i64 m ∧ jj = .int .i64 (jB len m : Nat) ∧ Inv w' wq L E len len (.slice (some ⟨g, 0, none⟩) len cp) ps bs) (fun _ kk _ => len - (intOf kk).toNat)
              case atStart => exact ⟨0, by omega, rfl, rfl, hJ⟩
              case round =>
                clear hJ
                obtain ⟨m, hm, rfl, rfl, hJ⟩ := hrel
                by_cases hml : m < len
                · have hcl := jB_lt hml
                  have hpv := jB_prev hml
                  have HD : Hid (len - 1 - m = jB len (m + 1)) := (jB_next hml).symm
                  generalize jB len m = c at *
                  obtain ⟨b0, hb0⟩ := HAT.out c hcl
                  go_wp2_with fail
                  refine (place_any _ L g len cp c ps bs _ hJ.line HR.out HN.out hcl b0 hb0).mono ?_
                  rintro e w4 ⟨rfl, f4⟩
                  have hJ4 := hJ.keep f4
                  rw [hpv]
                  have hdl : len - 1 - m < len := by omega
                  generalize hX : len - 1 - m = d at *
                  have HX : Hid (len - 1 - m = d) := hX
                  clear hX
                  obtain ⟨b, hb⟩ := HAT.out d hdl
                  generalize nextOf len c = q
                  have b2 : (d : Int) < len := by omega
                  have b3 : ¬ len ≤ d := by omega
                  have b4 : ¬ ((d : Int) < 0) := by omega
                  have b5 : (0 : Int) ≤ d := by omega
                  clear hJ f4 hpv
                  go_wp2_with fail
                  refine (place_any _ L g len cp d ps bs _ hJ4.line HR.out HN.out hdl b hb).mono ?_
                  rintro e w5 ⟨rfl, f5⟩
                  have hJ5 := hJ4.keep f5
                  have cE := hJ5.cell d b hb
                  rw [← HX.out] at cE
                  generalize prevOf len d = p0
                  generalize nextOf len d = q0
                  clear hJ4 f5
                  go_wp2_with fail
                  go_roundw
                  case rel => exact ⟨m + 1, by omega, by go_num, by rw [HD.out], hJ5⟩
                  case measure => simp [intOf]; omega
                · have em : len = m := by omega
                  subst em
                  rw [show ((jB len len : Nat) : Int) = 0 by rw [jB_end h0]; rfl]
                  go_wp2_with fail
                  go_ret
                  exact ⟨rfl, hJ.low⟩
end Go.Proofs.Qxb6626088a
