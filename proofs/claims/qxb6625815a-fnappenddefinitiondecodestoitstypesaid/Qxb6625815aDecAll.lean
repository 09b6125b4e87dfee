import Derived.Test.Qxb6625815aDec2
import Derived.Test.Qxb6625815aMatch
namespace Go.Proofs.Qxb6625815a
open Go.RowKit

section
variable {g o c N : Nat} {ps rest : List UInt8}
theorem mkRU {p x : Nat} (hN : N = ps.length) (hl : ps.length ≤ 200000000) (hx : x < 18446744073709551616) (hd : ps.drop p = Enc.uint x ++ rest) : RU g o c N ps p x (p + (Enc.uint x).length) :=
  fun W hb => readUintAt g o c N ps rest p x _ _ W hN rfl rfl hb hl hx hd
theorem mkRI {p : Nat} {i : Int} (hN : N = ps.length) (hl : ps.length ≤ 200000000) (h0 : -9223372036854775808 ≤ i) (h1 : i ≤ 9223372036854775807) (hd : ps.drop p = Enc.int i ++ rest) : RI g o c N ps p i (p + (Enc.int i).length) :=
  fun W hb => readInt g o c N ps rest p _ i _ W hN rfl rfl hb hl h0 h1 hd
theorem mkRN {p : Nat} {nm : ByteArray} {i : Int} (hN : N = ps.length) (hl : ps.length ≤ 200000000) (hc : N ≤ c) (h0 : -9223372036854775808 ≤ i) (h1 : i ≤ 9223372036854775807) (hi : i ≠ 0) (hd : ps.drop p = Enc.nameID nm.data.toList i ++ rest) : RN g o c N ps p nm i (p + (Enc.nameID nm.data.toList i).length) :=
  fun W hb => readNameID g o c N ps rest p _ nm i _ W hN rfl rfl hb hl hc h0 h1 hi hd
end

/-- A type that the law lets by. -/
structure Good (t : Enc.Ty) : Prop where
  i0 : 1 ≤ t.id
  i1 : t.id ≤ 9223372036854775807
  k0 : 0 ≤ t.kind
  k1 : t.kind ≤ 3
  e0 : -9223372036854775808 ≤ t.elem
  e1 : t.elem ≤ 9223372036854775807
  y0 : -9223372036854775808 ≤ t.key
  y1 : t.key ≤ 9223372036854775807
  n0 : -9223372036854775808 ≤ t.len
  n1 : t.len ≤ 9223372036854775807
  el : t.kind = 0 ∨ t.kind = 1 ∨ t.kind = 3 → t.elem ≠ 0
  ky : t.kind = 3 → t.key ≠ 0
  fi : t.kind = 2 → ∀ f ∈ t.fields, f.2 ≠ 0
  fb : ∀ f ∈ t.fields, f.1.size ≤ 1048576 ∧ -9223372036854775808 ≤ f.2 ∧ f.2 ≤ 9223372036854775807

theorem zz : ([0, 0] : List UInt8) = Enc.uint 0 ++ Enc.uint 0 := by rw [uint0]; rfl

/-- What zzDecodeDefinition hands back, and that zzMatches takes it. -/
def Decoded (t : Enc.Ty) (fv : Value) (w : World) (e : Ending) (w' : World) : Prop :=
  ∃ (a0 : Int) (s : ByteArray) (a2 a3 a4 a5 a6 : Int) (p1 : Option Addr) (n1 c1 : Nat) (p2 : Option Addr) (n2 c2 : Nat),
    e = .returned (.tuple #[.agg #[.int .i64 a0, .string s, .int .i64 a2, .int .i64 a3, .int .i64 a4, .int .i64 a5, .int .i64 a6, .slice p1 n1 c1, .slice p2 n2 c2], .bool true]) ∧ Below w.heap.size w w' ∧
    ∀ W, Below w'.heap.size w' W → Calls Try.prog 12 #[.agg #[.int .i64 a0, .string s, .int .i64 a2, .int .i64 a3, .int .i64 a4, .int .i64 a5, .int .i64 a6, .slice p1 n1 c1, .slice p2 n2 c2], tyv t fv] W fun e W' => e = .returned (.bool true) ∧ Below W.heap.size W W'

theorem recs_ge : ∀ fs : List (ByteArray × Int), fs.length ≤ (Enc.recs fs).length
  | [] => by simp [Enc.recs]
  | f :: fs => by
    have := recs_ge fs
    have h : 1 ≤ (Enc.nameID f.1.data.toList f.2).length := by unfold Enc.nameID; simp only [List.length_append, List.length_cons, List.length_nil]; omega
    have e : Enc.recs (f :: fs) = Enc.nameID f.1.data.toList f.2 ++ Enc.recs fs := by simp [Enc.recs]
    rw [e, List.length_append, List.length_cons]; omega

theorem decode1 (g o c N : Nat) (ps : List UInt8) (w : World) (hb : Bytes w g o ps) (t : Enc.Ty) (fv : Value) (G : Good t) (hk : t.kind = 1) (hps : ps = Enc.defn t) (hN : N = ps.length) (hl : ps.length ≤ 200000000) (hc : N ≤ c) :
    Calls Try.prog 11 #[.slice (some ⟨g, o, none⟩) N c] w (Decoded t fv w) := by
  obtain ⟨id, nm, kd, fs, el, ky, ln⟩ := t
  simp only at hk
  subst hk
  obtain ⟨i0, i1, _, _, e0, e1, y0, y1, n0, n1, hel, hky, _, _⟩ := G
  simp only at *
  have hd : ps.drop 0 = Enc.int (-id) ++ (Enc.uint 2 ++ (Enc.uint 1 ++ (Enc.nameID nm.data.toList id ++ (Enc.uint 1 ++ (Enc.int el ++ (Enc.uint 0 ++ (Enc.uint 0 ++ []))))))) := by
    rw [hps, List.drop_zero]
    simp only [Enc.defn, zz, List.append_assoc, List.append_nil]
    rfl
  have d1 := drop_next hd
  have d2 := drop_next d1
  have d3 := drop_next d2
  have d4 := drop_next d3
  have d5 := drop_next d4
  have d6 := drop_next d5
  have d7 := drop_next d6
  have hend := drop_len d7 (by rw [uint0]; simp)
  simp only [List.length_nil, Nat.add_zero] at hend
  have RZ := mkRU (g := g) (o := o) (c := c) hN hl (by decide) d7
  rw [hend, ← hN] at RZ
  refine (dec1 g o c N ps w hb id nm el (beq_eq_false_iff_ne.2 (hel (by simp))) i0 i1 _ _ _ _ _ _ _ (mkRI hN hl (by omega) (by omega) hd) (mkRU hN hl (by decide) d1) (mkRU hN hl (by decide) d2) (mkRN hN hl hc (by omega) i1 (by omega) d3) (mkRU hN hl (by decide) d4) (mkRI hN hl e0 e1 d5) (mkRU hN hl (by decide) d6) RZ).mono ?_
  rintro e w' ⟨rfl, hB⟩
  exact ⟨_, _, _, _, _, _, _, _, _, _, _, _, _, rfl, hB, fun W _ => match1 id el ky ln nm fv W i0 i1 _ _ _ _⟩
theorem decode0 (g o c N : Nat) (ps : List UInt8) (w : World) (hb : Bytes w g o ps) (t : Enc.Ty) (fv : Value) (G : Good t) (hk : t.kind = 0) (hln : t.len = 0) (hps : ps = Enc.defn t) (hN : N = ps.length) (hl : ps.length ≤ 200000000) (hc : N ≤ c) :
    Calls Try.prog 11 #[.slice (some ⟨g, o, none⟩) N c] w (Decoded t fv w) := by
  obtain ⟨id, nm, kd, fs, el, ky, ln⟩ := t
  simp only at hk
  subst hk
  obtain ⟨i0, i1, _, _, e0, e1, y0, y1, n0, n1, hel, hky, _, _⟩ := G
  simp only at *
  have hd : ps.drop 0 = Enc.int (-id) ++ (Enc.uint 1 ++ (Enc.uint 1 ++ (Enc.nameID nm.data.toList id ++ (Enc.uint 1 ++ (Enc.int el ++ (Enc.uint 0 ++ (Enc.uint 0 ++ []))))))) := by
    rw [hps, List.drop_zero]
    simp only [Enc.defn, zz, List.append_assoc, List.append_nil, Enc.body, hln, if_true]
    rfl
  have d1 := drop_next hd
  have d2 := drop_next d1
  have d3 := drop_next d2
  have d4 := drop_next d3
  have d5 := drop_next d4
  have d6 := drop_next d5
  have d7 := drop_next d6
  have hend := drop_len d7 (by rw [uint0]; simp)
  simp only [List.length_nil, Nat.add_zero] at hend
  have RZ := mkRU (g := g) (o := o) (c := c) hN hl (by decide) d7
  rw [hend, ← hN] at RZ
  refine (dec0 g o c N ps w hb id nm el (beq_eq_false_iff_ne.2 (hel (by simp))) i0 i1 _ _ _ _ _ _ _ (mkRI hN hl (by omega) (by omega) hd) (mkRU hN hl (by decide) d1) (mkRU hN hl (by decide) d2) (mkRN hN hl hc (by omega) i1 (by omega) d3) (mkRU hN hl (by decide) d4) (mkRI hN hl e0 e1 d5) (mkRU hN hl (by decide) d6) RZ).mono ?_
  rintro e w' ⟨rfl, hB⟩
  exact ⟨_, _, _, _, _, _, _, _, _, _, _, _, _, rfl, hB, fun W _ => by rw [hln]; exact match0 id el ky 0 nm fv W i0 i1 _ _ _⟩
theorem decode0l (g o c N : Nat) (ps : List UInt8) (w : World) (hb : Bytes w g o ps) (t : Enc.Ty) (fv : Value) (G : Good t) (hk : t.kind = 0) (hln : t.len ≠ 0) (hps : ps = Enc.defn t) (hN : N = ps.length) (hl : ps.length ≤ 200000000) (hc : N ≤ c) :
    Calls Try.prog 11 #[.slice (some ⟨g, o, none⟩) N c] w (Decoded t fv w) := by
  obtain ⟨id, nm, kd, fs, el, ky, ln⟩ := t
  simp only at hk
  subst hk
  obtain ⟨i0, i1, _, _, e0, e1, y0, y1, n0, n1, hel, hky, _, _⟩ := G
  simp only at *
  have hd : ps.drop 0 = Enc.int (-id) ++ (Enc.uint 1 ++ (Enc.uint 1 ++ (Enc.nameID nm.data.toList id ++ (Enc.uint 1 ++ (Enc.int el ++ (Enc.uint 1 ++ (Enc.int ln ++ (Enc.uint 0 ++ (Enc.uint 0 ++ []))))))))) := by
    rw [hps, List.drop_zero]
    simp only [Enc.defn, zz, List.append_assoc, List.append_nil, Enc.body, if_true, if_neg hln]
    rfl
  have d1 := drop_next hd
  have d2 := drop_next d1
  have d3 := drop_next d2
  have d4 := drop_next d3
  have d5 := drop_next d4
  have d6 := drop_next d5
  have d7 := drop_next d6
  have d8 := drop_next d7
  have d9 := drop_next d8
  have hend := drop_len d9 (by rw [uint0]; simp)
  simp only [List.length_nil, Nat.add_zero] at hend
  have RZ := mkRU (g := g) (o := o) (c := c) hN hl (by decide) d9
  rw [hend, ← hN] at RZ
  refine (dec0l g o c N ps w hb id nm el (beq_eq_false_iff_ne.2 (hel (by simp))) ln (beq_eq_false_iff_ne.2 hln) i0 i1 _ _ _ _ _ _ _ _ _ (mkRI hN hl (by omega) (by omega) hd) (mkRU hN hl (by decide) d1) (mkRU hN hl (by decide) d2) (mkRN hN hl hc (by omega) i1 (by omega) d3) (mkRU hN hl (by decide) d4) (mkRI hN hl e0 e1 d5) (mkRU hN hl (by decide) d6) (mkRI hN hl n0 n1 d7) (mkRU hN hl (by decide) d8) RZ).mono ?_
  rintro e w' ⟨rfl, hB⟩
  exact ⟨_, _, _, _, _, _, _, _, _, _, _, _, _, rfl, hB, fun W _ => match0 id el ky ln nm fv W i0 i1 _ _ _⟩
theorem decode3 (g o c N : Nat) (ps : List UInt8) (w : World) (hb : Bytes w g o ps) (t : Enc.Ty) (fv : Value) (G : Good t) (hk : t.kind = 3) (hps : ps = Enc.defn t) (hN : N = ps.length) (hl : ps.length ≤ 200000000) (hc : N ≤ c) :
    Calls Try.prog 11 #[.slice (some ⟨g, o, none⟩) N c] w (Decoded t fv w) := by
  obtain ⟨id, nm, kd, fs, el, ky, ln⟩ := t
  simp only at hk
  subst hk
  obtain ⟨i0, i1, _, _, e0, e1, y0, y1, n0, n1, hel, hky, _, _⟩ := G
  simp only at *
  have hd : ps.drop 0 = Enc.int (-id) ++ (Enc.uint 4 ++ (Enc.uint 1 ++ (Enc.nameID nm.data.toList id ++ (Enc.uint 1 ++ (Enc.int ky ++ (Enc.uint 1 ++ (Enc.int el ++ (Enc.uint 0 ++ (Enc.uint 0 ++ []))))))))) := by
    rw [hps, List.drop_zero]
    simp only [Enc.defn, zz, List.append_assoc, List.append_nil, show Enc.body ⟨id, nm, 3, fs, el, ky, ln⟩ = Enc.uint 1 ++ Enc.int ky ++ (Enc.uint 1 ++ Enc.int el) from rfl]
    rfl
  have d1 := drop_next hd
  have d2 := drop_next d1
  have d3 := drop_next d2
  have d4 := drop_next d3
  have d5 := drop_next d4
  have d6 := drop_next d5
  have d7 := drop_next d6
  have d8 := drop_next d7
  have d9 := drop_next d8
  have hend := drop_len d9 (by rw [uint0]; simp)
  simp only [List.length_nil, Nat.add_zero] at hend
  have RZ := mkRU (g := g) (o := o) (c := c) hN hl (by decide) d9
  rw [hend, ← hN] at RZ
  refine (dec3 g o c N ps w hb id nm ky (beq_eq_false_iff_ne.2 (hky (by simp))) el (beq_eq_false_iff_ne.2 (hel (by simp))) i0 i1 _ _ _ _ _ _ _ _ _ (mkRI hN hl (by omega) (by omega) hd) (mkRU hN hl (by decide) d1) (mkRU hN hl (by decide) d2) (mkRN hN hl hc (by omega) i1 (by omega) d3) (mkRU hN hl (by decide) d4) (mkRI hN hl y0 y1 d5) (mkRU hN hl (by decide) d6) (mkRI hN hl e0 e1 d7) (mkRU hN hl (by decide) d8) RZ).mono ?_
  rintro e w' ⟨rfl, hB⟩
  exact ⟨_, _, _, _, _, _, _, _, _, _, _, _, _, rfl, hB, fun W _ => match3 id el ky ln nm fv W i0 i1 _ _ _⟩
theorem decode2n (g o c N : Nat) (ps : List UInt8) (w : World) (hb : Bytes w g o ps) (t : Enc.Ty) (fv : Value) (G : Good t) (hk : t.kind = 2) (hfs : t.fields = []) (hfv : ∃ a c, fv = .slice a 0 c) (hps : ps = Enc.defn t) (hN : N = ps.length) (hl : ps.length ≤ 200000000) (hc : N ≤ c) :
    Calls Try.prog 11 #[.slice (some ⟨g, o, none⟩) N c] w (Decoded t fv w) := by
  obtain ⟨id, nm, kd, fs, el, ky, ln⟩ := t
  simp only at hk
  subst hk
  obtain ⟨i0, i1, _, _, e0, e1, y0, y1, n0, n1, hel, hky, _, _⟩ := G
  simp only at *
  have hd : ps.drop 0 = Enc.int (-id) ++ (Enc.uint 3 ++ (Enc.uint 1 ++ (Enc.nameID nm.data.toList id ++ (Enc.uint 0 ++ (Enc.uint 0 ++ []))))) := by
    rw [hps, List.drop_zero]
    simp only [Enc.defn, zz, List.append_assoc, List.append_nil, hfs]
    rfl
  have d1 := drop_next hd
  have d2 := drop_next d1
  have d3 := drop_next d2
  have d4 := drop_next d3
  have d5 := drop_next d4
  have hend := drop_len d5 (by rw [uint0]; simp)
  simp only [List.length_nil, Nat.add_zero] at hend
  have RZ := mkRU (g := g) (o := o) (c := c) hN hl (by decide) d5
  rw [hend, ← hN] at RZ
  refine (dec2n g o c N ps w hb id nm  i0 i1 _ _ _ _ _ (mkRI hN hl (by omega) (by omega) hd) (mkRU hN hl (by decide) d1) (mkRU hN hl (by decide) d2) (mkRN hN hl hc (by omega) i1 (by omega) d3) (mkRU hN hl (by decide) d4) RZ).mono ?_
  rintro e w' ⟨rfl, hB⟩
  exact ⟨_, _, _, _, _, _, _, _, _, _, _, _, _, rfl, hB, fun W _ => by obtain ⟨fa, fc, rfl⟩ := hfv; exact match2_0 id el ky ln nm fa fc W i0 i1 _ _ _ _⟩
theorem recs_split (fs : List (ByteArray × Int)) (k : Nat) (h : k < fs.length) : Enc.recs fs = Enc.recs (fs.take k) ++ (Enc.nameID (fs[k]).1.data.toList (fs[k]).2 ++ Enc.recs (fs.drop (k + 1))) := by
  have e : fs = fs.take k ++ (fs[k] :: fs.drop (k + 1)) := by rw [← List.drop_eq_getElem_cons h, List.take_append_drop]
  have e2 : Enc.recs fs = Enc.recs (fs.take k ++ (fs[k] :: fs.drop (k + 1))) := congrArg Enc.recs e
  rw [e2]
  simp only [Enc.recs, List.map_append, List.map_cons, List.flatten_append, List.flatten_cons]

theorem decode2 (g o c N : Nat) (ps : List UInt8) (w : World) (hb : Bytes w g o ps) (t : Enc.Ty) (fv : Value) (G : Good t) (hk : t.kind = 2) (hfs : t.fields ≠ []) (hfv : FIn w fv t.fields) (hfn : t.fields.length ≤ 1048576) (hps : ps = Enc.defn t) (hN : N = ps.length) (hl : ps.length ≤ 200000000) (hc : N ≤ c) :
    Calls Try.prog 11 #[.slice (some ⟨g, o, none⟩) N c] w (Decoded t fv w) := by
  obtain ⟨id, nm, kd, fs, el, ky, ln⟩ := t
  simp only at hk
  subst hk
  obtain ⟨i0, i1, _, _, e0, e1, y0, y1, n0, n1, _, _, hfi, hfb⟩ := G
  simp only at *
  have hd : ps.drop 0 = Enc.int (-id) ++ (Enc.uint 3 ++ (Enc.uint 1 ++ (Enc.nameID nm.data.toList id ++ (Enc.uint 1 ++ (Enc.uint fs.length ++ (Enc.recs fs ++ (Enc.uint 0 ++ (Enc.uint 0 ++ [])))))))) := by
    rw [hps, List.drop_zero]
    simp only [Enc.defn, zz, List.append_assoc, List.append_nil, show Enc.body ⟨id, nm, 2, fs, el, ky, ln⟩ = (if fs = [] then [] else Enc.uint 1 ++ Enc.uint fs.length ++ Enc.recs fs) from rfl, if_neg hfs]
    rfl
  have d1 := drop_next hd
  have d2 := drop_next d1
  have d3 := drop_next d2
  have d4 := drop_next d3
  have d5 := drop_next d4
  have d6 := drop_next d5
  have d7 := drop_next d6
  have d8 := drop_next d7
  have hend := drop_len d8 (by rw [uint0]; simp)
  simp only [List.length_nil, Nat.add_zero] at hend
  have RZ := mkRU (g := g) (o := o) (c := c) hN hl (by decide) d8
  rw [hend, ← hN] at RZ
  have hpos : 1 ≤ fs.length := by cases fs with | nil => exact absurd rfl hfs | cons => simp
  have e0' : Enc.recs (fs.take 0) = [] := by simp [Enc.recs]
  have eN : fs.take fs.length = fs := List.take_length
  have hRR : ∀ k (hk : k < fs.length), RN g o c N ps (0 + (Enc.int (-id)).length + (Enc.uint 3).length + (Enc.uint 1).length + (Enc.nameID nm.data.toList id).length + (Enc.uint 1).length + (Enc.uint fs.length).length + (Enc.recs (fs.take k)).length) (fs[k]).1 (fs[k]).2 (0 + (Enc.int (-id)).length + (Enc.uint 3).length + (Enc.uint 1).length + (Enc.nameID nm.data.toList id).length + (Enc.uint 1).length + (Enc.uint fs.length).length + (Enc.recs (fs.take (k + 1))).length) := by
    intro k hk
    have hm := hfb (fs[k]) (List.getElem_mem _)
    rw [recs_split fs k hk, List.append_assoc, List.append_assoc] at d6
    have := mkRN (g := g) (o := o) (c := c) hN hl hc hm.2.1 hm.2.2 (hfi (by simp) _ (List.getElem_mem hk)) (drop_next d6)
    rw [Nat.add_assoc _ (Enc.recs (fs.take k)).length, ← List.length_append, ← Enc.recs_snoc, ← List.take_succ_eq_append_getElem hk] at this
    exact this
  have hrl : fs.length ≤ (Enc.recs fs).length := recs_ge fs
  have hlen6 := drop_len d6 (by omega)
  refine (dec2 g o c N ps w hb id nm i0 i1 fs fs.length rfl hpos hfn (by omega) (fun k => 0 + (Enc.int (-id)).length + (Enc.uint 3).length + (Enc.uint 1).length + (Enc.nameID nm.data.toList id).length + (Enc.uint 1).length + (Enc.uint fs.length).length + (Enc.recs (fs.take k)).length) _ _ _ _ _ _ (by simp only [e0', List.length_nil]; omega)
    (mkRI hN hl (by omega) (by omega) hd) (mkRU hN hl (by decide) d1) (mkRU hN hl (by decide) d2) (mkRN hN hl hc (by omega) i1 (by omega) d3) (mkRU hN hl (by decide) d4) (by simp only [e0', List.length_nil, Nat.add_zero]; exact mkRU hN hl (by omega) d5) hRR (by rw [eN]; exact mkRU hN hl (by decide) d7) RZ).mono ?_
  rintro e w' ⟨fn, fi, B, rfl, hB, hon, hoi⟩
  obtain ⟨gn, cn, rfl, _, hgn⟩ := hon.form (by omega)
  obtain ⟨gi, ci, rfl, _, hgi⟩ := hoi.form (by omega)
  refine ⟨_, _, _, _, _, _, _, _, _, _, _, _, _, rfl, hB, fun W hW => ?_⟩
  rcases hfv with ⟨h, _⟩ | ⟨b, off, cc, rfl, _, hbl, hin⟩
  · exact absurd h hfs
  have hsz := hB.size
  have hWs := hW.size
  refine match2 id el ky ln nm b off cc fs.length gn cn gi ci fs W i0 i1 _ _ _ rfl hfn ?_ ?_ (by omega) (by omega) (by omega)
  · intro k hk
    rw [hW.cell (p := ⟨b, off + k * 2, none⟩) (by show b < _; omega), hW.cell (p := ⟨b, off + k * 2 + 1, none⟩) (by show b < _; omega), hB.cell (p := ⟨b, off + k * 2, none⟩) hbl, hB.cell (p := ⟨b, off + k * 2 + 1, none⟩) hbl]
    exact hin k hk
  · intro k hk
    rw [hW.cell (p := ⟨gn, k, none⟩) hgn, hW.cell (p := ⟨gi, k, none⟩) hgi]
    have c1 := hon.cells (g := gn) rfl k (.string (fs[k]).1) (by simp [hk])
    have c2 := hoi.cells (g := gi) rfl k (.int .i64 (fs[k]).2) (by simp [hk])
    rw [add0] at c1 c2
    exact ⟨c1, c2⟩

/-- 'zzDecodeDefinition' of what 'AppendDefinition' appended. -/
theorem decode (g o c N : Nat) (ps : List UInt8) (w : World) (hb : Bytes w g o ps) (t : Enc.Ty) (fv : Value) (G : Good t) (hfv : FIn w fv t.fields) (hfn : t.fields.length ≤ 1048576) (hps : ps = Enc.defn t) (hN : N = ps.length) (hl : ps.length ≤ 200000000) (hc : N ≤ c) :
    Calls Try.prog 11 #[.slice (some ⟨g, o, none⟩) N c] w (Decoded t fv w) := by
  have k0 := G.k0
  have k1 := G.k1
  rcases (show t.kind = 0 ∨ t.kind = 1 ∨ t.kind = 2 ∨ t.kind = 3 by omega) with h | h | h | h
  · by_cases hln : t.len = 0
    · exact decode0 g o c N ps w hb t fv G h hln hps hN hl hc
    · exact decode0l g o c N ps w hb t fv G h hln hps hN hl hc
  · exact decode1 g o c N ps w hb t fv G h hps hN hl hc
  · by_cases hfs : t.fields = []
    · refine decode2n g o c N ps w hb t fv G h hfs ?_ hps hN hl hc
      rcases hfv with ⟨_, a, c, e, _⟩ | ⟨b, off, c, e, _⟩
      · exact ⟨a, c, e⟩
      · rw [hfs] at e; exact ⟨_, c, e⟩
    · exact decode2 g o c N ps w hb t fv G h hfs hfv hfn hps hN hl hc
  · exact decode3 g o c N ps w hb t fv G h hps hN hl hc
end Go.Proofs.Qxb6625815a
