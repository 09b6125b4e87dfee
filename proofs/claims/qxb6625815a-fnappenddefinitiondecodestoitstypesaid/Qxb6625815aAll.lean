import Derived.Test.Qxb6625815aDecAll
import Derived.Test.Qxb6625815aBuild
import Derived.Test.Qxb6625815aClone
import Derived.Test.Qxb6625815aSize
namespace Go.Proofs.Qxb6625815a
open Go.RowKit

theorem FIn.below {w W : World} {fv : Value} {fs : List (ByteArray × Int)} (h : FIn w fv fs) (hb : Below w.heap.size w W) : FIn W fv fs := by
  rcases h with h | ⟨b, off, c, e, hn, hbl, hin⟩
  · exact .inl h
  · refine .inr ⟨b, off, c, e, hn, Nat.lt_of_lt_of_le hbl hb.size, fun k hk => ?_⟩
    rw [hb.cell (p := ⟨b, off + k * 2, none⟩) hbl, hb.cell (p := ⟨b, off + k * 2 + 1, none⟩) hbl]
    exact hin k hk

theorem ownsRow_below {w W : World} {B n : Nat} {e : TypeId} {v : Value} {xs : List Value} (h : w.ownsRow B e 1 v n xs) (hb : Below w.heap.size w W) : W.ownsRow B e 1 v n xs :=
  h.kept (row := none) ⟨hb.os, hb.tape, hb.output, hb.size, fun k hk _ => hb.block k hk⟩ (by cases v.ownBlock <;> simp)

section
variable (id kd el ky ln : Int) (nm : ByteArray) (fv : Value) (fs : List (ByteArray × Int)) (w : World)

theorem bytesAll (ab : Option Addr) (lb cb : Nat) (hF : FIn w fv fs) (hlb : lb ≤ 9223372036854775807) (hnm : nm.size ≤ 9223372036854775807) (hsz : ∀ f ∈ fs, f.1.size ≤ 9223372036854775807) :
    Calls Try.prog 5 #[.slice ab lb cb, .agg #[.int .i64 id, .string nm, .int .i64 kd, fv, .int .i64 el, .int .i64 ky, .int .i64 ln]] w fun e w' => IsBool e ∧ Below w.heap.size w w' := by
  rcases hF with ⟨_, a, c, rfl, _⟩ | ⟨b, off, c, rfl, hn, hbl, hin⟩
  · exact bytes_zero id kd el ky ln nm ab lb cb a c w hlb hnm
  · exact bytes_some id kd el ky ln nm ab lb cb b off c _ fs w hlb hnm rfl hn hbl hin hsz

theorem addAll (T : Int) (hF : FIn w fv fs) (t0 : 0 ≤ T) (t1 : T ≤ 1048576) (hnm : nm.size ≤ 9223372036854775807) (hsz : ∀ f ∈ fs, f.1.size ≤ 9223372036854775807) :
    Calls Try.prog 6 #[.int .i64 T, .agg #[.int .i64 id, .string nm, .int .i64 kd, fv, .int .i64 el, .int .i64 ky, .int .i64 ln]] w fun e w' => ∃ r : Int, e = .returned (.int .i64 r) ∧ (r ≤ 1048576 → T + nm.size + 64 + sumN fs ≤ 1048576) ∧ Below w.heap.size w w' := by
  rcases hF with ⟨rfl, a, c, rfl, _⟩ | ⟨b, off, c, rfl, hn, hbl, hin⟩
  · exact addType_zero T id kd el ky ln nm a c w t0 t1 hnm
  · exact addType_some T id kd el ky ln nm b off c _ fs w t0 t1 hnm rfl hn hbl hin hsz

theorem buildAll (hF : FIn w fv fs) (hn1 : fs.length ≤ 1048576) :
    Calls Try.prog 9 #[.agg #[.int .i64 id, .string nm, .int .i64 kd, fv, .int .i64 el, .int .i64 ky, .int .i64 ln]] w fun e w' => ∃ tb fv, e = .returned (.pointer (some ⟨tb, 0, none⟩)) ∧ Built w w' tb ⟨id, nm, kd, fs, el, ky, ln⟩ fv := by
  rcases hF with ⟨rfl, a, c, rfl, hc⟩ | ⟨b, off, c, rfl, hn, hbl, hin⟩
  · cases a with
    | none => rw [hc rfl]; exact build_nil id kd el ky ln nm w
    | some ad => exact build_zero id kd el ky ln nm ad c w
  · exact build_some id kd el ky ln nm b off c _ fs w rfl hn1 hbl hin
end

theorem sumN_mem : ∀ (fs : List (ByteArray × Int)) (f : ByteArray × Int), f ∈ fs → f.1.size + 24 ≤ sumN fs
  | [], f, h => by cases h
  | g :: fs, f, h => by
    rcases List.mem_cons.1 h with rfl | h
    · simp only [sumN]; omega
    · have := sumN_mem fs f h; simp only [sumN]; omega
theorem sumN_len : ∀ fs : List (ByteArray × Int), fs.length * 24 ≤ sumN fs
  | [] => by simp [sumN]
  | g :: fs => by have := sumN_len fs; simp only [sumN, List.length_cons]; omega
theorem recs_le : ∀ fs : List (ByteArray × Int), (∀ f ∈ fs, f.1.size ≤ 100000000 ∧ -9223372036854775808 ≤ f.2 ∧ f.2 ≤ 9223372036854775807) → (Enc.recs fs).length ≤ 2 * sumN fs
  | [], _ => by simp [Enc.recs]
  | f :: fs, h => by
    have h1 := recs_le fs (fun g hg => h g (List.mem_cons_of_mem _ hg))
    obtain ⟨a, b, c⟩ := h f (List.mem_cons_self ..)
    have h2 := nameID_len f.1 f.2 a b c
    have e : Enc.recs (f :: fs) = Enc.nameID f.1.data.toList f.2 ++ Enc.recs fs := by simp [Enc.recs]
    rw [e, List.length_append]; simp only [sumN]; omega
theorem sumN_take (fs : List (ByteArray × Int)) (k : Nat) : sumN (fs.take k) ≤ sumN fs := by
  have := sumN_append (fs.take k) (fs.drop k)
  rw [List.take_append_drop] at this
  omega

theorem defn_len (t : Enc.Ty) (G : Good t) (hs : t.name.size + sumN t.fields ≤ 1048576) : (Enc.defn t).length ≤ 5000000 ∧ 0 < (Enc.defn t).length := by
  have h1 := int_len (-t.id) (by have := G.i1; omega) (by have := G.i0; omega)
  have h2 := Enc.uint_len_le (t.kind.toNat + 1) (by have := G.k1; omega)
  have h3 := nameID_len t.name t.id (by omega) (by have := G.i0; omega) G.i1
  have h4 := int_len t.elem G.e0 G.e1
  have h5 := int_len t.key G.y0 G.y1
  have h6 := int_len t.len G.n0 G.n1
  have h7 := recs_le t.fields (fun f hf => by have := G.fb f hf; omega)
  have h8 := sumN_len t.fields
  have h9 := Enc.uint_len_le t.fields.length (by omega)
  have hb : (Enc.body t).length ≤ 3000000 := by
    unfold Enc.body
    split
    · split <;> simp only [List.length_append, Enc.uint1, List.length_cons, List.length_nil] <;> omega
    · split
      · simp only [List.length_append, Enc.uint1, List.length_cons, List.length_nil]; omega
      · split
        · split <;> simp only [List.length_append, Enc.uint1, List.length_cons, List.length_nil] <;> omega
        · simp only [List.length_append, Enc.uint1, List.length_cons, List.length_nil]; omega
  unfold Enc.defn
  simp only [List.length_append, Enc.uint1, List.length_cons, List.length_nil]
  omega

/-- 'AppendDefinition(b, t)'. -/
theorem defAll (B : Nat) (v : Value) (xs : List UInt8) (tb : Nat) (t : Enc.Ty) (fv : Value) (w : World) (G : Good t) (hs : t.name.size + sumN t.fields ≤ 1048576) (hT : TB w tb t fv) (hne : v.ownBlock ≠ some tb) (hf : FV w fv t.fields) (hfne : ∀ fb, fv.ownBlock = some fb → v.ownBlock ≠ some fb)
    (hown : w.ownsRow B 5 1 v xs.length (Lib.byteCells xs)) (hB : B ≤ w.heap.size) (hl : xs.length ≤ 1048576) :
    Calls Try.prog 8 #[v, .pointer (some ⟨tb, 0, none⟩)] w fun e w' => ∃ v', e = .returned v' ∧ App B w w' v v' xs (Enc.defn t) := by
  by_cases hk : t.kind = 2
  · refine def2 B v xs tb t fv w hT hne hk hf hfne ?_ ?_ G.i0 G.i1 hown hB (by omega)
    · intro k hk
      have h1 := recs_le (t.fields.take k) (fun f hf => by have := G.fb f (List.mem_of_mem_take hf); omega)
      have h2 := sumN_take t.fields k
      omega
    · intro f hf
      have := G.fb f hf
      omega
  · exact def1 B v xs tb t fv w hT hne G.k0 G.k1 hk G.i0 G.i1 G.e0 G.e1 G.y0 G.y1 G.n0 G.n1 hown hB (by omega)

/-- The slice of bytes that came in. -/
def BIn (w : World) (ab : Option Addr) (lb cb : Nat) (bs : List UInt8) : Prop :=
  bs.length = lb ∧ ((ab = none ∧ lb = 0 ∧ cb = 0) ∨ ∃ ad, ab = some ad ∧ ∀ j u, (Lib.byteCells bs)[j]? = some u → w.cell? (ad.add j) = some u)

/-- What a clone is: its bytes in a block of its own (or nil). -/
def CL (w w' : World) (v : Value) (bs : List UInt8) : Prop :=
  (v = .slice none 0 0 ∧ bs = []) ∨ (v = .slice (some ⟨w.heap.size, 0, none⟩) bs.length bs.length ∧ w'.heap[w.heap.size]? = some (.cells (Lib.byteCells bs).toArray 5 (0, 0)))

theorem CL.owns {w w' : World} {v : Value} {bs : List UInt8} (h : CL w w' v bs) (hl : bs.length ≤ 1048576) : w'.ownsRow w.heap.size 5 1 v bs.length (Lib.byteCells bs) := by
  rcases h with ⟨rfl, rfl⟩ | ⟨rfl, h⟩
  · exact World.ownsRow_nil _ _ _ _
  · refine ⟨by rw [Lib.byteCells_length]; omega, .inr ⟨_, _, _, rfl, Nat.le_refl _, h, Nat.le_refl _, by unfold maxLen; omega, by simp [Lib.byteCells_length], ?_⟩⟩
    rw [List.take_of_length_le (by simp [Lib.byteCells_length])]

theorem cloneAll (ab : Option Addr) (lb cb : Nat) (bs : List UInt8) (w : World) (h : BIn w ab lb cb bs) (hl : lb ≤ 1048576) :
    Calls Try.prog 7 #[.slice ab lb cb] w fun e w' => ∃ v, e = .returned v ∧ CL w w' v bs ∧ Below w.heap.size w w' := by
  obtain ⟨hlen, ⟨rfl, rfl, rfl⟩ | ⟨ad, rfl, hc⟩⟩ := h
  · refine (clone_nil w).mono ?_
    rintro e w' ⟨rfl, rfl⟩
    exact ⟨_, rfl, .inl ⟨rfl, List.eq_nil_of_length_eq_zero hlen⟩, Below.refl _ _⟩
  · refine (clone_some ad lb cb bs w hlen hl hc).mono ?_
    rintro e w' ⟨rfl, hb, hB⟩
    exact ⟨_, rfl, .inr ⟨by rw [hlen], hb⟩, hB⟩

theorem BIn.below {w W : World} {ab : Option Addr} {lb cb : Nat} {bs : List UInt8} (h : BIn w ab lb cb bs) (hb : Below w.heap.size w W) : BIn W ab lb cb bs := by
  obtain ⟨hl, h | ⟨ad, e, hc⟩⟩ := h
  · exact ⟨hl, .inl h⟩
  · exact ⟨hl, .inr ⟨ad, e, fun j u hj => by have := hc j u hj; exact (hb.cell (World.block_lt_of_cell? w _ this)).trans this⟩⟩
end Go.Proofs.Qxb6625815a
