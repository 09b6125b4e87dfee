import Derived.Test.Qxb6625815aDef
namespace Go.Proofs.Qxb6625815a
open Go.RowKit

/-- A slice of fields in a block of its own. -/
def FV (w : World) (fv : Value) (fs : List (ByteArray × Int)) : Prop :=
  (fs = [] ∧ ∃ a c, fv = .slice a 0 c) ∨
  ∃ fb c T, fv = .slice (some ⟨fb, 0, none⟩) fs.length c ∧ fs.length ≤ 1048576 ∧ w.heap[fb]? = some (.cells (fs.flatMap fun f => [.string f.1, .int .i64 f.2]).toArray T (0, 0))

theorem flat_at (fs : List (ByteArray × Int)) (k : Nat) (hk : k < fs.length) :
    (fs.flatMap fun f => [Value.string f.1, .int .i64 f.2])[2 * k]? = some (.string (fs[k]).1) ∧ (fs.flatMap fun f => [Value.string f.1, .int .i64 f.2])[2 * k + 1]? = some (.int .i64 (fs[k]).2) := by
  induction fs generalizing k with
  | nil => simp at hk
  | cons f fs ih =>
    cases k with
    | zero => simp
    | succ k =>
      have := ih k (by simpa using hk)
      simpa [Nat.mul_add, List.flatMap_cons] using this

theorem App.pre_alloc {B : Nat} {w w' : World} {v v' : Value} {xs ys : List UInt8} {o : Obj} (a : App B (w.alloc o) w' v v' xs ys) : App B w w' v v' xs ys :=
  ⟨a.own, grown_pre a.grow, by rcases a.lies with e | ⟨g, e, hg⟩; · exact .inl e
                               · exact .inr ⟨g, e, by simp at hg; omega⟩⟩

set_option maxHeartbeats 1600000 in
set_option maxRecDepth 100000 in
theorem def2 (B : Nat) (v : Value) (xs : List UInt8) (tb : Nat) (t : Enc.Ty) (fv : Value) (w : World) (hT : TB w tb t fv) (hne : v.ownBlock ≠ some tb)
    (hk : t.kind = 2) (hf : FV w fv t.fields) (hfne : ∀ fb, fv.ownBlock = some fb → v.ownBlock ≠ some fb) (hfl : ∀ k, k ≤ t.fields.length → (Enc.recs (t.fields.take k)).length ≤ 40000000) (hff : ∀ f ∈ t.fields, f.1.size ≤ 10000000 ∧ -9223372036854775808 ≤ f.2 ∧ f.2 ≤ 9223372036854775807) (i0 : 1 ≤ t.id) (i1 : t.id ≤ 9223372036854775807)
    (hown : w.ownsRow B 5 1 v xs.length (Lib.byteCells xs)) (hB : B ≤ w.heap.size) (hl : xs.length + t.name.size ≤ 20000000) :
    Calls Try.prog 8 #[v, .pointer (some ⟨tb, 0, none⟩)] w fun e w' => ∃ v', e = .returned v' ∧ App B w w' v v' xs (Enc.defn t) := by
  obtain ⟨id, nm, kd, fs, el, ky, ln⟩ := t
  simp only at *
  subst hk
  have eD : Enc.defn ⟨id, nm, 2, fs, el, ky, ln⟩ = Enc.int (-id) ++ Enc.uint (Int.toNat 2 + 1) ++ Enc.uint 1 ++ Enc.nameID nm.data.toList id ++ Enc.body ⟨id, nm, 2, fs, el, ky, ln⟩ ++ [0, 0] := rfl
  rw [eD]
  clear eD
  obtain ⟨j0, hi, hz0, hz1, hz2⟩ := info_parts Try.info5
  have c0 := hT.c0
  go_enter Try.func8, Try.ntmps8
  go_wp2_with fail
  refine (appendInt B v xs (-id) w (by omega) (by omega) hown hB (by omega)).mono ?_
  rintro e w1 ⟨v1, rfl, a1⟩
  obtain ⟨T1, ne1⟩ := hT.app hne a1
  have z1 := a1.grow.size
  have l1 := int_len (-id) (by omega) (by omega)
  have l1 : (xs ++ Enc.int (-id)).length ≤ xs.length + 9 := by rw [List.length_append]; omega
  have o1 := a1.next
  have c2 := T1.c2
  clear hown c0 hT hne
  go_wp2_with fail
  refine (uintAt B v1 _ (Int.toNat 2 + 1) _ w1 (by omega) (by omega) o1 (by omega) (by omega)).mono ?_
  rintro e w2 ⟨v2, rfl, a2⟩
  obtain ⟨T2, ne2⟩ := T1.app ne1 a2
  have a12 := a1.trans a2
  have z2 := a12.grow.size
  have l2 := Enc.uint_len_le (Int.toNat 2 + 1) (by omega)
  have l2 : (xs ++ (Enc.int (-id) ++ Enc.uint (Int.toNat 2 + 1))).length ≤ xs.length + 18 := by simp only [List.length_append] at l1 ⊢; omega
  have o2 := a12.next
  clear c2 T1 ne1 o1 l1 a1 a2 z1
  go_wp2_with fail
  refine (uintAt B v2 _ 1 _ w2 rfl (by decide) o2 (by omega) (by omega)).mono ?_
  rintro e w3 ⟨v3, rfl, a3⟩
  obtain ⟨T3, ne3⟩ := T2.app ne2 a3
  have a13 := a12.trans a3
  have z3 := a13.grow.size
  have l3 : (xs ++ (Enc.int (-id) ++ Enc.uint (Int.toNat 2 + 1) ++ Enc.uint 1)).length ≤ xs.length + 19 := by simp only [List.length_append, Enc.uint1, List.length_cons, List.length_nil] at l2 ⊢; omega
  have o3 := a13.next
  have c0 := T3.c0
  have c1 := T3.c1
  clear T2 ne2 o2 l2 a12 a3 z2
  go_wp2_with fail
  have hN := appendNameID B v3 _ nm id w3.drew (by omega) i1 o3 (by show B ≤ w3.heap.size; omega) (by omega)
  go_region_held3 (fun w' => w'.cell? ⟨tb, 0, none⟩ = some (.int .i64 id) ∧ w'.cell? ⟨tb, 1, none⟩ = some (.string nm)) (first | go_keep | exact ⟨(T3.app ne3 a4.undrew).1.c0, (T3.app ne3 a4.undrew).1.c1⟩) ((go_at_call 17; refine hN.mono ?_; rintro e w4 ⟨v4, rfl, a4⟩))
  obtain ⟨T4, ne4⟩ := T3.app ne3 a4.undrew
  have a14 := a13.trans a4.undrew
  have z4 := a14.grow.size
  have l4 := nameID_len nm id (by omega) (by omega) i1
  have l4 : (xs ++ (Enc.int (-id) ++ Enc.uint (Int.toNat 2 + 1) ++ Enc.uint 1 ++ Enc.nameID nm.data.toList id)).length ≤ 20000200 := by simp only [List.length_append] at l3 ⊢; omega
  have o4 := a14.next
  have c2 := T4.c2
  clear hN c0 c1 T3 ne3 a13 a4 o3 l3 z3
  generalize hP : Enc.int (-id) ++ Enc.uint (Int.toNat 2 + 1) ++ Enc.uint 1 ++ Enc.nameID nm.data.toList id = P at *
  have HP : Hid (Enc.int (-id) ++ Enc.uint (Int.toNat 2 + 1) ++ Enc.uint 1 ++ Enc.nameID nm.data.toList id = P) := hP
  clear hP
  by_cases hfs : fs = []
  · obtain ⟨fa, fc, rfl⟩ : ∃ fa fc, fv = .slice fa 0 fc := by
      rcases hf with ⟨_, fa, fc, e⟩ | ⟨fb, fc, T, e, _⟩
      · exact ⟨fa, fc, e⟩
      · rw [hfs] at e; exact ⟨_, fc, e⟩
    have c3 := T4.c3
    have HF : Hid (fs = []) := hfs
    clear hfs hf hfne hfl hff
    have Q4 : Hid (xs.length + P.length + 2 ≤ maxLen) := by rw [List.length_append] at l4; show _ ≤ _; unfold maxLen; omega
    have Q5 : Hid ((xs.length + P.length + 2) * 1 ≤ 140737488355328) := by rw [List.length_append] at l4; show _ ≤ _; omega
    have Q6 : Hid (∀ o, B ≤ (w4.alloc o).heap.size) := fun o => by simp; omega
    have Q8 : Hid (∀ o, (w4.alloc o).heap.size = w4.heap.size + 1) := fun o => by simp
    have Q0 : Hid (∀ o, (w4.alloc o).ownsRow B 5 1 v4 (xs.length + P.length) (Lib.byteCells (xs ++ P))) := fun o => a14.own.alloc o
    go_wp2_with (at_builtin; refine wpList_append_lies _ rfl (.tmp 117) (.tmp 118) 22 rfl B 5 j0 (.int .u8 0) 1 1 Try.underlying22 hi hz0 hz1 hz2 rfl (by decide) v4 (xs.length + P.length) (Lib.byteCells (xs ++ P)) rfl (Q0.out _) ⟨w4.heap.size, 0, none⟩ 2 2 [.int .u8 0, .int .u8 0] rfl rfl (two_cells _) two_one (by decide) Q4.out Q5.out (Q6.out _) (w4.heap.size + 1) (Q8.out _) ?_)
    intro g cap w9 hown9 hgrow9 hat9 hlt9
    have key := a14.trans (App.two _ (by simp) hown9 hgrow9 hat9)
    clear hown9 hgrow9 hat9 o4 a14 Q0 Q4 Q5 Q6 Q8
    go_wp2
    go_ret
    exact ⟨_, rfl, by rw [HP.out, show Enc.body ⟨id, nm, 2, fs, el, ky, ln⟩ = (if fs = [] then [] else Enc.uint 1 ++ Enc.uint fs.length ++ Enc.recs fs) from rfl, if_pos HF.out, List.append_nil]; exact key⟩
  · rcases hf with ⟨e, _⟩ | ⟨fb, fc, T, rfl, hn, hfb⟩
    · exact absurd e hfs
    have hneF : v.ownBlock ≠ some fb := hfne fb rfl
    have hfbl : fb < w.heap.size := (Array.getElem?_eq_some_iff.1 hfb).1
    have hpos : 0 < fs.length := by cases fs with | nil => exact absurd rfl hfs | cons => simp
    have c3 := T4.c3
    have HF : Hid (fs ≠ []) := hfs
    have HFL : Hid (∀ k, k ≤ fs.length → (Enc.recs (fs.take k)).length ≤ 40000000) := hfl
    have HFF : Hid (∀ f ∈ fs, f.1.size ≤ 10000000 ∧ -9223372036854775808 ≤ f.2 ∧ f.2 ≤ 9223372036854775807) := hff
    clear hfs hfne hfl hff
    generalize hnn : fs.length = n at *
    have HN : Hid (fs.length = n) := hnn
    clear hnn
    go_wp2_with fail
    have tok1 : True := trivial
    have hU := uintAt B v4 _ 1 1 w4.drew rfl (by decide) o4 (by show B ≤ w4.heap.size; omega) (by omega)
    have HI : Hid (∀ (w5 : World) (v5 : Value) (_ : App B w4.drew w5 v4 v5 (xs ++ P) (Enc.uint 1)), Calls Try.prog 16 #[v5, .int .u64 (IntKind.u64.wrap n)] w5 fun e w' => ∃ v', e = .returned v' ∧ App B w5 w' v5 v' ((xs ++ P) ++ Enc.uint 1) (Enc.uint n)) :=
      fun w5 v5 a5 => uintAt B v5 _ n _ w5 (wraps_u64 n (by omega) (by omega)) (by omega) a5.next (by have := a5.grow.size; simp at this; omega) (by simp only [List.length_append, Enc.uint1, List.length_cons, List.length_nil] at l4 ⊢; omega)
    go_region_held3 (fun w' => w'.cell? ⟨tb, 3, none⟩ = some (.slice (some ⟨fb, 0, none⟩) n fc)) (first | go_keep | exact (T4.app ne4 a5.undrew).1.c3 | exact (T4.app ne4 (a5.undrew.trans a6)).1.c3) ((first | (go_at_call 16; have _t := tok1; refine hU.mono ?_; rintro e w5 ⟨v5, rfl, a5⟩; clear tok1) | (go_at_call 16; refine (HI.out _ _ a5).mono ?_; rintro e w6 ⟨v6, rfl, a6⟩)))
    obtain ⟨T6, ne6⟩ := T4.app ne4 (a5.undrew.trans a6)
    have a16 := a14.trans (a5.undrew.trans a6)
    have z6 := a16.grow.size
    have l6 := Enc.uint_len_le n (by omega)
    have l6 : (xs ++ (P ++ (Enc.uint 1 ++ Enc.uint n))).length ≤ 20000300 := by simp only [List.length_append, Enc.uint1, List.length_cons, List.length_nil] at l4 ⊢; omega
    have c3 := T6.c3
    clear hU HI T4 ne4 a14 o4 a5 a6 c2
    generalize hY : P ++ (Enc.uint 1 ++ Enc.uint n) = Y at *
    have HY : Hid (P ++ (Enc.uint 1 ++ Enc.uint n) = Y) := hY
    clear hY
    go_wp2_with fail
    clear c3
    have HFB : Hid (∀ k (hk : k < n) (W : World), W.heap[fb]? = w.heap[fb]? → W.cell? ⟨fb, k * 2, none⟩ = some (.string (fs[k]'(by rw [HN.out]; exact hk)).1) ∧ W.cell? ⟨fb, k * 2 + 1, none⟩ = some (.int .i64 (fs[k]'(by rw [HN.out]; exact hk)).2)) := by
      intro k hk W hW
      rw [hfb] at hW
      obtain ⟨f1, f2⟩ := flat_at fs k (by rw [HN.out]; exact hk)
      rw [cell_of_row _ _ _ _ _ _ hW, cell_of_row _ _ _ _ _ _ hW, Nat.mul_comm k 2]
      exact ⟨by simpa using f1, by simpa using f2⟩
    clear hfb
    go_loopw [0, 90] (fun vb i wr => ∃ k : Nat, k ≤ n ∧ i = .int .i64 k ∧ App B w wr v vb xs (Y ++ Enc.recs (fs.take k))) (fun _ i _ => n - (intOf i).toNat)
    case atStart => exact ⟨0, by omega, rfl, by simpa [Enc.recs] using a16⟩
    case round =>
      obtain ⟨k, hk, rfl, ak⟩ := hrel
      by_cases hlt : k < n
      · obtain ⟨f1, f2⟩ := HFB.out k hlt wr (ak.grow.block fb hfbl (fun e => hneF e.symm))
        obtain ⟨g1, g2, g3⟩ := HFF.out (fs[k]'(by rw [HN.out]; exact hlt)) (List.getElem_mem _)
        have rk := HFL.out k hk
        have HR : Hid (Enc.recs (fs.take (k + 1)) = Enc.recs (fs.take k) ++ Enc.nameID (fs[k]'(by rw [HN.out]; exact hlt)).1.data.toList (fs[k]'(by rw [HN.out]; exact hlt)).2) := by
          show _ = _
          rw [List.take_succ_eq_append_getElem (by rw [HN.out]; exact hlt), Enc.recs_snoc]
        have zk := ak.grow.size
        have lk : (xs ++ (Y ++ Enc.recs (fs.take k))).length ≤ 70000000 := by simp only [List.length_append] at l6 ⊢; omega
        generalize (fs[k]'(by rw [HN.out]; exact hlt)).1 = fn at *
        generalize (fs[k]'(by rw [HN.out]; exact hlt)).2 = fi at *
        generalize hr : Enc.recs (fs.take k) = R at *
        clear hr T6 a16
        go_wp2_with fail
        refine (appendNameID B u0 _ fn fi _ g2 g3 (ak.next.alloc _) (by simp; omega) (by omega)).mono ?_
        rintro e w2 ⟨v2', rfl, a2⟩
        have a3 := ak.trans a2.pre_alloc
        clear ak a2 f1 f2
        go_wp2
        go_roundw
        case rel => exact ⟨k + 1, by omega, by go_num, by rw [HR.out, ← List.append_assoc]; exact a3⟩
        case measure => simp [intOf]; omega
      · have ek : n = k := by omega
        subst ek
        rw [List.take_of_length_le (by rw [HN.out]; exact Nat.le_refl _)] at ak
        obtain ⟨w7, rfl⟩ : ∃ w7 : World, w7 = wr := ⟨_, rfl⟩
        obtain ⟨v7, rfl⟩ : ∃ v7 : Value, v7 = u0 := ⟨_, rfl⟩
        have a17 := ak
        have rk := HFL.out n (Nat.le_refl _)
        rw [List.take_of_length_le (by rw [HN.out]; exact Nat.le_refl _)] at rk
        have l7 : (xs ++ (Y ++ Enc.recs fs)).length ≤ 70000000 := by simp only [List.length_append] at l6 ⊢; omega
        have z7 := a17.grow.size
        have o7 := a17.next
        generalize hY7 : Y ++ Enc.recs fs = Y7 at *
        have HY7 : Hid (Y ++ Enc.recs fs = Y7) := hY7
        clear hY7 ak a16 T6 HFB rk
        have Q4 : Hid (xs.length + Y7.length + 2 ≤ maxLen) := by rw [List.length_append] at l7; show _ ≤ _; unfold maxLen; omega
        have Q5 : Hid ((xs.length + Y7.length + 2) * 1 ≤ 140737488355328) := by rw [List.length_append] at l7; show _ ≤ _; omega
        have Q6 : Hid (∀ o, B ≤ (w7.alloc o).heap.size) := fun o => by simp; omega
        have Q8 : Hid (∀ o, (w7.alloc o).heap.size = w7.heap.size + 1) := fun o => by simp
        have Q0 : Hid (∀ o, (w7.alloc o).ownsRow B 5 1 v7 (xs.length + Y7.length) (Lib.byteCells (xs ++ Y7))) := fun o => a17.own.alloc o
        go_wp2_with (at_builtin; refine wpList_append_lies _ rfl (.tmp 117) (.tmp 118) 22 rfl B 5 j0 (.int .u8 0) 1 1 Try.underlying22 hi hz0 hz1 hz2 rfl (by decide) v7 (xs.length + Y7.length) (Lib.byteCells (xs ++ Y7)) rfl (Q0.out _) ⟨w7.heap.size, 0, none⟩ 2 2 [.int .u8 0, .int .u8 0] rfl rfl (two_cells _) two_one (by decide) Q4.out Q5.out (Q6.out _) (w7.heap.size + 1) (Q8.out _) ?_)
        intro g cap w9 hown9 hgrow9 hat9 hlt9
        have key := a17.trans (App.two _ (by simp) hown9 hgrow9 hat9)
        clear hown9 hgrow9 hat9 o7 a17 Q0 Q4 Q5 Q6 Q8
        go_wp2
        go_ret
        exact ⟨_, rfl, by rw [HP.out, show Enc.body ⟨id, nm, 2, fs, el, ky, ln⟩ = (if fs = [] then [] else Enc.uint 1 ++ Enc.uint fs.length ++ Enc.recs fs) from rfl, if_neg HF.out, HN.out, ← List.append_assoc P, HY.out, HY7.out]; exact key⟩
end Go.Proofs.Qxb6625815a
