import Derived.Test.Qxb6625815aMain
import Derived.Test.Qxb6625815aMain2
import Derived.ProofKit
import Derived.OpenShut
import Derived.ShutString
import Derived.ChangeOld
import Derived.Below
import Derived.Deep.SlicePairs
namespace Go.Proofs.Qxb6625815a.fnAppendDefinitionDecodesToItsType
open Go.ChangeShapes Go.WideShapes Go.ChangeAt Go.RowKit

theorem own : ownKnob Try.prog.godebug = none := by kernel_rfl
theorem laidOut : laidOutB Try.prog = true := by kernel_rfl
theorem cells25 : Try.prog.cellsOf 25 = 7 := by kernel_rfl
theorem cells2 : Try.prog.cellsOf 2 = 1 := by kernel_rfl
theorem cells9 : Try.prog.cellsOf 9 = 1 := by kernel_rfl
theorem cells3 : Try.prog.cellsOf 3 = 1 := by kernel_rfl
theorem cells23 : Try.prog.cellsOf 23 = 1 := by kernel_rfl
theorem cells29 : Try.prog.cellsOf 29 = 2 := by kernel_rfl

section
variable {H : Type} {enc : TypeId × Value → H} {W : World} {base : Nat} {spare : Nat → Bool} {held : Bool}

/-- A TypeArg's seven cells, each with its reading. -/
theorem open7 {fuel : Nat} {c0 c1 c2 c3 c4 c5 c6 : Value} {x : DataW H × List MemPlace} (h : DataW.trod enc Try.prog W base spare held fuel 25 [c0, c1, c2, c3, c4, c5, c6] = some x) :
    ∃ n y0 y1 y2 y3 y4 y5 y6, DataW.trod enc Try.prog W base spare held n 2 [c0] = some y0 ∧ DataW.trod enc Try.prog W base spare held n 9 [c1] = some y1 ∧ DataW.trod enc Try.prog W base spare held n 3 [c2] = some y2 ∧ DataW.trod enc Try.prog W base spare held n 23 [c3] = some y3 ∧
      DataW.trod enc Try.prog W base spare held n 2 [c4] = some y4 ∧ DataW.trod enc Try.prog W base spare held n 2 [c5] = some y5 ∧ DataW.trod enc Try.prog W base spare held n 3 [c6] = some y6 := by
  obtain ⟨xs, n, _, _, _, hlen, hf⟩ := DataW.trod_struct Try.underlying25 h
  match xs, hlen with
  | [y0, y1, y2, y3, y4, y5, y6], _ =>
    exact ⟨n, y0, y1, y2, y3, y4, y5, y6, by simpa [cells2] using hf 0 _ rfl, by simpa [cells9] using hf 1 _ rfl, by simpa [cells3] using hf 2 _ rfl, by simpa [cells23] using hf 3 _ rfl, by simpa [cells2] using hf 4 _ rfl, by simpa [cells2] using hf 5 _ rfl, by simpa [cells3] using hf 6 _ rfl⟩

def strOf : Value → ByteArray
  | .string s => s
  | _ => ⟨#[]⟩

theorem array7 {α : Type} {cs : Array α} (h : cs.size = 7) : ∃ c0 c1 c2 c3 c4 c5 c6, cs = #[c0, c1, c2, c3, c4, c5, c6] := by
  obtain ⟨l⟩ := cs
  match l, h with
  | [c0, c1, c2, c3, c4, c5, c6], _ => exact ⟨c0, c1, c2, c3, c4, c5, c6, rfl⟩

/-- The fields that came in. -/
theorem openFields {fuel : Nat} {v : Value} {x : DataW H × List MemPlace} (h : DataW.trod enc Try.prog W base spare held fuel 23 [v] = some x) :
    ∃ fa nf fc fs, v = .slice fa nf fc ∧ FIn W (.slice fa nf fc) fs ∧ ∀ f ∈ fs, f.1.size ≤ 9223372036854775807 ∧ -9223372036854775808 ≤ f.2 ∧ f.2 ≤ 9223372036854775807 := by
  rcases Deep.open_slice_pairs Try.underlying23 Try.underlying29 cells29 rfl rfl cells9 cells2 h with ⟨hcs, _⟩ | ⟨a, len, cap, m, n, V0, V1, D0, D1, P0, P1, hcs, _, hl, hm, hmm, _, hc⟩
  · simp at hcs
    exact ⟨none, 0, 0, [], hcs, .inl ⟨rfl, none, 0, rfl, fun _ => rfl⟩, by simp⟩
  · simp at hcs
    have hlm : len ≤ m := by rw [hmm]; split <;> omega
    have key : ∀ i, i < len → (∃ s : ByteArray, V0 i = .string s ∧ s.size ≤ maxLen) ∧ ∃ z : Int, V1 i = .int .i64 z ∧ -9223372036854775808 ≤ z ∧ z ≤ 9223372036854775807 := by
      intro i hi
      obtain ⟨_, _, h0, h1⟩ := hc i (by omega)
      obtain ⟨s, e0, _, hs⟩ := DataW.trod_string Try.underlying9 h0
      obtain ⟨z, e1, _, hz⟩ := DataW.trod_int Try.underlying2 h1
      exact ⟨⟨s, by simpa using e0, hs⟩, z, by simpa using e1, bounds_i64 hz⟩
    refine ⟨some a, len, cap, (List.range len).map fun i => (strOf (V0 i), intOf (V1 i)), hcs, ?_, ?_⟩
    · by_cases h0 : len = 0
      · subst h0
        exact .inl ⟨rfl, some a, cap, rfl, fun h => by cases h⟩
      · obtain ⟨b, off, spot⟩ := a
        have hc0 := (hc 0 (by omega)).1
        have hspot : spot = none := by simpa [Addr.add] using World.cell?_spot hc0
        subst hspot
        have hadd : ∀ i, (⟨b, off, none⟩ : Addr).add i = ⟨b, off + i, none⟩ := fun i => by unfold Addr.add; split <;> simp_all
        refine .inr ⟨b, off, cap, by simp, by simp; unfold maxLen at hm; omega, ?_, ?_⟩
        · rw [hadd] at hc0
          exact World.block_lt_of_cell? W _ hc0
        · intro k hk
          simp only [List.length_map, List.length_range] at hk
          obtain ⟨q0, q1, _, _⟩ := hc k (by omega)
          obtain ⟨⟨s, e0, _⟩, z, e1, _⟩ := key k hk
          rw [hadd, e0] at q0
          rw [hadd, e1, ← Nat.add_assoc] at q1
          simp only [List.getElem_map, List.getElem_range, e0, e1, strOf, intOf]
          exact ⟨q0, q1⟩
    · intro f hf
      obtain ⟨i, hi, rfl⟩ := List.mem_map.1 hf
      obtain ⟨⟨s, e0, hs⟩, z, e1, hz⟩ := key i (List.mem_range.1 hi)
      simp only [e0, e1, strOf, intOf]
      unfold maxLen at hs
      exact ⟨by omega, hz⟩

/-- The bytes that came in. -/
theorem openBytes {fuel : Nat} {a : Option Addr} {len cap : Nat} {x : DataW H × List MemPlace} (h : DataW.trod enc Try.prog W base spare held fuel 22 [.slice a len cap] = some x) :
    len ≤ 9223372036854775807 ∧ ∃ bs, BIn W a len cap bs := by
  rcases open_ints Try.underlying22 Try.underlying5 (by kernel_rfl) h with ⟨hcs, _⟩ | ⟨ad, l, c, zs, hcs, _, hl, hm, hz, _, hcell, hwz⟩
  · simp at hcs
    obtain ⟨rfl, rfl, rfl⟩ := hcs
    exact ⟨by omega, [], rfl, .inl ⟨rfl, rfl, rfl⟩⟩
  · simp at hcs
    obtain ⟨rfl, rfl, rfl⟩ := hcs
    unfold maxLen at hm
    have hzl : len ≤ zs.length := by rw [hz]; split <;> omega
    refine ⟨by omega, (zs.take len).map (fun z => z.toNat.toUInt8), by simp; omega, .inr ⟨ad, rfl, ?_⟩⟩
    intro j u hj
    simp only [Lib.byteCells, List.map_map, List.getElem?_map, List.getElem?_take] at hj
    by_cases hjl : j < len
    · rw [if_pos hjl, List.getElem?_eq_getElem (by omega)] at hj
      simp only [Option.map_some, Option.some.injEq, Function.comp] at hj
      rw [hcell j (by omega), ← hj]
      have hb := bounds_u8 (hwz _ (List.getElem_mem (show j < zs.length by omega)))
      simp only [List.getD, List.getElem?_eq_getElem (show j < zs.length by omega), Option.getD_some, Nat.toUInt8, UInt8.toNat_ofNat']
      congr 2
      omega
    · rw [if_neg hjl] at hj
      cases hj
end

set_option maxRecDepth 100000 in
theorem lifted (os : Os) (started : os.Started) (H : Type) (enc : TypeId × Value → H) :
    ReturnsInHanded {} Try.checked os 3 .any (Rows.fnAppendDefinitionDecodesToItsTypeSpec.pre6 enc Try.prog Try.f3 Rows.fnAppendDefinitionDecodesToItsTypeRow.domain false) (Rows.fnAppendDefinitionDecodesToItsTypeSpec.post enc Try.prog Try.f3 false true false false) := by
  refine returnsInHanded_of_change (C := Try.checked) own started (by kernel_rfl) Try.func3
    (ChangeSpec.witness6 (enc := enc) (C := Try.checked) false ⟨#[], #[.slice none 0 0, .agg #[.int .i64 0, .string ⟨#[]⟩, .int .i64 0, .slice none 0 0, .int .i64 0, .int .i64 0, .int .i64 0]], []⟩ 8 (by kernel_rfl) (by kernel_rfl) (by kernel_rfl) (by kernel_rfl)) ?_
  intro W base args ds gs before hval0 hW hcnd _
  have hval : ∀ (j : Nat) t v, Try.f3.params[j]? = some t → args[j]? = some v → Value.okWide Try.prog W .any base t v := hval0
  have hW' := hW
  obtain ⟨p, q, hA0, hV, rfl, hfz, hnd⟩ := hW
  have hA : DataW.TrodAll enc Try.prog W 0 (fun _ => true) true Try.f3.params.toList args.toList ds p := hA0
  rw [Try.params3] at hA hval
  obtain ⟨v0, vs0, d0, ds0, p0, q0, hargs, rfl, rfl, h0, r0⟩ := trodAll_cons hA
  obtain ⟨v1, vs1, d1, ds1, p1, q1, rfl, rfl, rfl, h1, r1⟩ := trodAll_cons r0
  obtain ⟨rfl, rfl, rfl⟩ := trodAll_nil r1
  obtain rfl : args = #[v0, v1] := by cases args; simp_all
  obtain ⟨rfl, rfl⟩ := trodVars_none hV
  obtain ⟨a0, len0, cap0, rfl⟩ := okWide_slice Try.underlying22 (hval 0 22 v0 rfl rfl)
  obtain ⟨cs, rfl, hsz⟩ := okWide_struct Try.underlying25 (hval 1 25 v1 rfl rfl)
  obtain ⟨c0, c1, c2, c3, c4, c5, c6, rfl⟩ := array7 (hsz.trans cells25)
  have k0 := h0
  have k1 := h1
  have lt0 : ∀ x ∈ p0, x.block < W.heap.size := by obtain ⟨m, hm⟩ := k0; exact DataW.trod_lt m _ _ _ hm
  have lt1 : ∀ x ∈ p1, x.block < W.heap.size := by obtain ⟨m, hm⟩ := k1; exact DataW.trod_lt m _ _ _ hm
  obtain ⟨hlb, bs, hb⟩ : len0 ≤ 9223372036854775807 ∧ ∃ bs, BIn W a0 len0 cap0 bs := by
    obtain ⟨fuel, hf⟩ := h0
    exact openBytes (by simpa [Value.cells] using hf)
  obtain ⟨fuel, hf⟩ := h1
  obtain ⟨n, y0, y1, y2, y3, y4, y5, y6, g0, g1, g2, g3, g4, g5, g6⟩ := open7 (by simpa [Value.cells] using hf)
  obtain ⟨id, e0, _, wi⟩ := DataW.trod_int Try.underlying2 g0
  obtain ⟨nm, e1, _, wn⟩ := DataW.trod_string Try.underlying9 g1
  obtain ⟨kd, e2, _, wk⟩ := DataW.trod_int Try.underlying3 g2
  obtain ⟨fa, nf, fc, fs, e3, hF, hfs⟩ := openFields g3
  obtain ⟨el, e4, _, we⟩ := DataW.trod_int Try.underlying2 g4
  obtain ⟨ky, e5, _, wy⟩ := DataW.trod_int Try.underlying2 g5
  obtain ⟨ln, e6, _, wl⟩ := DataW.trod_int Try.underlying3 g6
  simp only [List.cons.injEq, and_true] at e0 e1 e2 e4 e5 e6
  subst e0 e1 e2 e3 e4 e5 e6
  clear hA0 hval0 hf g0 g1 g2 g3 g4 g5 g6
  obtain ⟨i0, i1⟩ := bounds_i64 wi
  obtain ⟨u0, u1⟩ := bounds_i64 we
  obtain ⟨x0, x1⟩ := bounds_i64 wy
  obtain ⟨z0, z1⟩ := bounds_i64 wl
  unfold maxLen at wn
  have walk : Calls Try.prog 3 #[.slice a0 len0 cap0, .agg #[.int .i64 id, .string nm, .int .i64 kd, .slice fa nf fc, .int .i64 el, .int .i64 ky, .int .i64 ln]] W fun e w' => e = .returned (.bool true) ∧ Below W.heap.size W w' := by
    by_cases hk : kd = 2
    · exact main2 a0 len0 cap0 bs id kd el ky ln nm fa nf fc fs W hlb hb hF (by omega) hfs i0 i1 u0 u1 x0 x1 z0 z1 hk
    · exact mainN a0 len0 cap0 bs id kd el ky ln nm fa nf fc fs W hlb hb hF (by omega) hfs i0 i1 u0 u1 x0 x1 z0 z1 (beq_eq_false_iff_ne.2 hk)
  refine walk.mono fun e W' ⟨he, bel⟩ => ?_
  subst he
  exact ⟨_, rfl, _, _, _, [], _, [], hW', trodAll_mk1 (shut_bool Try.underlying4 _), (trodAll_cons_mk (Below.trod laidOut (by kernel_rfl) (of_decide_eq_true (by kernel_rfl)) k0 bel lt0) (trodAll_cons_mk (Below.trod laidOut (by kernel_rfl) (of_decide_eq_true (by kernel_rfl)) k1 bel lt1) trodAll_mk0)), rfl, bel.frame _, fun h => by cases h⟩

theorem over : Rows.fnAppendDefinitionDecodesToItsTypeRow.holds Try.pinned (OpenSpec.ofChange Rows.fnAppendDefinitionDecodesToItsTypeSpec) :=
  OpenClaim.holds_of_wide 3 Try.f3 rfl rfl rfl rfl rfl rfl rfl ⟨rfl, rfl, rfl, rfl, rfl⟩ rfl rfl rfl rfl rfl (by kernel_rfl) Try.func3 (by kernel_rfl)
    (of_decide_eq_true (by kernel_rfl)) (by unfold Func.isWrapper; first | (rw [if_pos (by decide +kernel)]; kernel_rfl) | (rw [if_neg (by decide +kernel)]; exact ⟨rfl, rfl⟩))
    (fun os started H enc _ => lifted os started H enc)

/-- The statement. -/
theorem proved : Rows.FnAppendDefinitionDecodesToItsTypeSaid := over
end Go.Proofs.Qxb6625815a.fnAppendDefinitionDecodesToItsType
