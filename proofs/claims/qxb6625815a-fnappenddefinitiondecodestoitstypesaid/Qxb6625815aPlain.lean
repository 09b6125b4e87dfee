import Derived.Lib.EndianMore
import Derived.Lib.BitFns
import Derived.Lib.Zigzag
namespace Go.Proofs.Qxb6625815a.Enc

/-- How many bytes hold x. -/
def nb (x : Nat) : Nat := (Lib.bitLen x + 7) / 8
/-- 'AppendUint''s bytes. -/
def uint (x : Nat) : List UInt8 := if x < 128 then [x.toUInt8] else (256 - nb x).toUInt8 :: Lib.beBytes (nb x) x
/-- 'AppendInt''s bytes. -/
def int (i : Int) : List UInt8 := uint (Lib.zigzag i)

theorem bitLenAux_spec : ∀ (f x : Nat), x < 2 ^ f → x ≠ 0 → 1 ≤ Lib.bitLenAux f x ∧ Lib.bitLenAux f x ≤ f ∧ 2 ^ (Lib.bitLenAux f x - 1) ≤ x ∧ x < 2 ^ Lib.bitLenAux f x
  | 0, x, h, h0 => by simp at h; exact absurd h h0
  | f + 1, x, h, h0 => by
    simp only [Lib.bitLenAux, if_neg h0]
    by_cases h1 : x / 2 = 0
    · have hx : x = 1 := by omega
      subst hx
      have : Lib.bitLenAux f 0 = 0 := by cases f <;> simp [Lib.bitLenAux]
      simp [this]
    · obtain ⟨a, b, c, d⟩ := bitLenAux_spec f (x / 2) (by rw [Nat.pow_succ] at h; omega) h1
      refine ⟨by omega, by omega, ?_, ?_⟩
      · obtain ⟨m, hm⟩ : ∃ m, Lib.bitLenAux f (x / 2) = m + 1 := ⟨Lib.bitLenAux f (x / 2) - 1, by omega⟩
        rw [hm] at c ⊢
        rw [show 1 + (m + 1) - 1 = m + 1 by omega, Nat.pow_succ]
        simp only [Nat.add_sub_cancel] at c
        omega
      · rw [Nat.add_comm 1, Nat.pow_succ]; omega

theorem nb_spec (x : Nat) (h0 : 128 ≤ x) (h1 : x < 18446744073709551616) : 1 ≤ nb x ∧ nb x ≤ 8 ∧ 256 ^ (nb x - 1) ≤ x ∧ x < 256 ^ nb x := by
  obtain ⟨a, b, c, d⟩ := bitLenAux_spec 64 x (by simpa using h1) (by omega)
  have e : Lib.bitLenAux 64 x = Lib.bitLen x := rfl
  rw [e] at a b c d
  unfold nb
  generalize Lib.bitLen x = l at *
  have p : ∀ k, 256 ^ k = 2 ^ (8 * k) := fun k => by rw [show 256 = 2 ^ 8 by rfl, ← Nat.pow_mul]
  refine ⟨by omega, by omega, ?_, ?_⟩
  · rw [p]; exact Nat.le_trans (Nat.pow_le_pow_right (by decide) (by omega)) c
  · rw [p]; exact Nat.lt_of_lt_of_le d (Nat.pow_le_pow_right (by decide) (by omega))

theorem leBytes_snoc : ∀ (k v : Nat), Lib.leBytes (k + 1) v = Lib.leBytes k v ++ [(v / 256 ^ k % 256).toUInt8]
  | 0, v => by simp [Lib.leBytes]
  | k + 1, v => by
    rw [Lib.leBytes, leBytes_snoc k (v / 256)]
    simp only [Lib.leBytes, List.cons_append, Nat.div_div_eq_div_mul]
    rw [Nat.pow_succ, Nat.mul_comm 256]

theorem beBytes_cons (k v : Nat) : Lib.beBytes (k + 1) v = (v / 256 ^ k % 256).toUInt8 :: Lib.beBytes k v := by
  simp [Lib.beBytes, leBytes_snoc]

/-- The greatest byte is not zero. -/
theorem head_ne (x : Nat) (h0 : 128 ≤ x) (h1 : x < 18446744073709551616) : ∃ c r, Lib.beBytes (nb x) x = c :: r ∧ c.toNat ≠ 0 := by
  obtain ⟨a, b, c, d⟩ := nb_spec x h0 h1
  obtain ⟨m, hm⟩ : ∃ m, nb x = m + 1 := ⟨nb x - 1, by omega⟩
  rw [hm] at c d ⊢
  refine ⟨_, _, beBytes_cons m x, ?_⟩
  rw [Lib.toUInt8_mod]
  simp only [Nat.add_sub_cancel] at c
  rw [Nat.pow_succ] at d
  have q : x / 256 ^ m < 256 := Nat.div_lt_of_lt_mul d
  have q1 : 1 ≤ x / 256 ^ m := (Nat.le_div_iff_mul_le (Nat.pow_pos (by decide))).2 (by omega)
  omega

theorem beFrom_snoc : ∀ (l : List UInt8) (acc : Nat) (b : UInt8), Lib.beFrom acc (l ++ [b]) = Lib.beFrom acc l * 256 + b.toNat
  | [], acc, b => rfl
  | x :: l, acc, b => by simp only [List.cons_append, Lib.beFrom]; exact beFrom_snoc l _ b

theorem beNat_snoc (l : List UInt8) (b : UInt8) : Lib.beNat (l ++ [b]) = Lib.beNat l * 256 + b.toNat := beFrom_snoc l 0 b

theorem beNat_take_succ (l : List UInt8) (k : Nat) (h : k < l.length) : Lib.beNat (l.take (k + 1)) = Lib.beNat (l.take k) * 256 + (l[k]).toNat := by
  rw [List.take_succ_eq_append_getElem h, beNat_snoc]

theorem leNat_lt : ∀ (l : List UInt8), Lib.leNat l < 256 ^ l.length
  | [] => by simp [Lib.leNat]
  | b :: r => by
    have := leNat_lt r
    have hb := b.toNat_lt
    simp only [Lib.leNat, List.length_cons, Nat.pow_succ]
    omega

theorem beNat_lt (l : List UInt8) : Lib.beNat l < 256 ^ l.length := by
  rw [Lib.beNat_eq]
  simpa using leNat_lt l.reverse

theorem beBytes_drop (k n v : Nat) (h : n ≤ k) : Lib.beBytes n v = (Lib.beBytes k v).drop (k - n) := by
  obtain ⟨d, rfl⟩ : ∃ d, k = n + d := ⟨k - n, by omega⟩
  rw [show n + d - n = d by omega]
  clear h
  induction d with
  | zero => rfl
  | succ d ih => rw [← Nat.add_assoc, beBytes_cons, List.drop_succ_cons]; exact ih
theorem uint_small (x : Nat) (h : x < 128) : uint x = [x.toUInt8] := by simp [uint, h]
theorem uint_big (x : Nat) (h : 128 ≤ x) : uint x = (256 - nb x).toUInt8 :: Lib.beBytes (nb x) x := by simp [uint, Nat.not_lt.2 h]
theorem uint_len_pos (x : Nat) : 1 ≤ (uint x).length := by unfold uint; split <;> simp
theorem uint_len_le (x : Nat) (h : x < 18446744073709551616) : (uint x).length ≤ 9 := by
  by_cases hx : x < 128
  · simp [uint_small x hx]
  · have := nb_spec x (by omega) h
    rw [uint_big x (by omega)]
    simp [Lib.beBytes_length]; omega
theorem uint1 : uint 1 = [1] := by rw [uint_small 1 (by decide)]; rfl
theorem uint2 : uint 2 = [2] := by rw [uint_small 2 (by decide)]; rfl

/-- 'appendNameID''s bytes. -/
def nameID (nm : List UInt8) (id : Int) : List UInt8 := (if nm = [] then uint 2 else uint 1 ++ (uint nm.length ++ nm) ++ uint 1) ++ int id ++ [0]
theorem nameID_nil (id : Int) : nameID [] id = uint 2 ++ int id ++ [0] := by simp [nameID]
theorem nameID_some (nm : List UInt8) (id : Int) (h : nm ≠ []) : nameID nm id = uint 1 ++ (uint nm.length ++ nm) ++ uint 1 ++ int id ++ [0] := by simp [nameID, h]
/-- A type, as the law is handed it. -/
structure Ty where
  id : Int
  name : ByteArray
  kind : Int
  fields : List (ByteArray × Int)
  elem : Int
  key : Int
  len : Int

/-- A struct type's field records. -/
def recs (fs : List (ByteArray × Int)) : List UInt8 := (fs.map fun f => nameID f.1.data.toList f.2).flatten
/-- What the kind adds behind the common part. -/
def body (t : Ty) : List UInt8 :=
  if t.kind = 0 then uint 1 ++ int t.elem ++ (if t.len = 0 then [] else uint 1 ++ int t.len)
  else if t.kind = 1 then uint 1 ++ int t.elem
  else if t.kind = 2 then (if t.fields = [] then [] else uint 1 ++ uint t.fields.length ++ recs t.fields)
  else uint 1 ++ int t.key ++ (uint 1 ++ int t.elem)
/-- 'AppendDefinition''s bytes. -/
def defn (t : Ty) : List UInt8 := int (-t.id) ++ uint (t.kind.toNat + 1) ++ uint 1 ++ nameID t.name.data.toList t.id ++ body t ++ [0, 0]

theorem recs_snoc (fs : List (ByteArray × Int)) (f : ByteArray × Int) : recs (fs ++ [f]) = recs fs ++ nameID f.1.data.toList f.2 := by simp [recs]
end Go.Proofs.Qxb6625815a.Enc
