import Derived.Test.Qxb6625815aRead3
namespace Go.Proofs.Qxb6625815a
open Go.RowKit

section
variable (g o c N : Nat) (ps : List UInt8)
/-- At p zzReadUint reads x, up to q. -/
def RU (p x q : Nat) : Prop := ∀ W, Bytes W g o ps → Calls Try.prog 19 #[.slice (some ⟨g, o, none⟩) N c, .int .i64 p] W fun e w' => e = .returned (.tuple #[.int .u64 x, .int .i64 q, .bool true]) ∧ w' = W
def RI (p : Nat) (i : Int) (q : Nat) : Prop := ∀ W, Bytes W g o ps → Calls Try.prog 18 #[.slice (some ⟨g, o, none⟩) N c, .int .i64 p] W fun e w' => e = .returned (.tuple #[.int .i64 i, .int .i64 q, .bool true]) ∧ w' = W
def RN (p : Nat) (nm : ByteArray) (id : Int) (q : Nat) : Prop := ∀ W, Bytes W g o ps → Calls Try.prog 20 #[.slice (some ⟨g, o, none⟩) N c, .int .i64 p] W fun e w' => e = .returned (.tuple #[.string nm, .int .i64 id, .int .i64 q, .bool true]) ∧ w' = W
end

theorem Bytes.alloc {w : World} {g o : Nat} {ps : List UInt8} (h : Bytes w g o ps) (x : Obj) : Bytes (w.alloc x) g o ps := fun j b hj => by
  have := h j b hj
  exact (World.cell?_of_block (Below.heap_alloc _ _ _ (World.block_lt_of_cell? w _ this))).trans this

set_option maxHeartbeats 1600000 in
set_option maxRecDepth 100000 in
/-- A slice type. -/
theorem dec1 (g o c N : Nat) (ps : List UInt8) (w : World) (hb : Bytes w g o ps) (id : Int) (nm : ByteArray) (el : Int) (hel : (el == 0) = false) (i0 : 1 ≤ id) (i1 : id ≤ 9223372036854775807) (p1 p2 p3 p4 p5 p6 p7 : Nat)
    (R1 : RI g o c N ps 0 (-id) p1) (R2 : RU g o c N ps p1 2 p2) (R3 : RU g o c N ps p2 1 p3) (R4 : RN g o c N ps p3 nm id p4) (R5 : RU g o c N ps p4 1 p5) (R6 : RI g o c N ps p5 el p6) (R7 : RU g o c N ps p6 0 p7) (R8 : RU g o c N ps p7 0 N) :
    Calls Try.prog 11 #[.slice (some ⟨g, o, none⟩) N c] w fun e w' => e = .returned (.tuple #[.agg #[.int .i64 (-id), .string nm, .int .i64 id, .int .i64 1, .int .i64 el, .int .i64 0, .int .i64 0, .slice none 0 0, .slice none 0 0], .bool true]) ∧ Below w.heap.size w w' := by
  have HB : Hid (∀ o1 o2 o3, Bytes (((w.alloc o1).alloc o2).alloc o3) g o ps) := fun o1 o2 o3 => ((hb.alloc o1).alloc o2).alloc o3
  clear hb
  go_enter Try.func11, Try.ntmps11
  go_wp2_with fail
  refine (R1 _ (HB.out _ _ _)).mono ?_
  rintro e w' ⟨rfl, rfl⟩
  go_wp2_with fail
  refine (R2 _ (HB.out _ _ _)).mono ?_
  rintro e w' ⟨rfl, rfl⟩
  go_wp2_with fail
  refine wp_loop_rounds 3 ?_
  rw [rounds_succ]
  go_wp2_with fail
  refine (R3 _ (HB.out _ _ _)).mono ?_
  rintro e w' ⟨rfl, rfl⟩
  go_wp2_with fail
  refine (R4 _ (HB.out _ _ _)).mono ?_
  rintro e w' ⟨rfl, rfl⟩
  go_wp2_with fail
  rw [rounds_succ]
  go_wp2_with fail
  refine (R5 _ (HB.out _ _ _)).mono ?_
  rintro e w' ⟨rfl, rfl⟩
  go_wp2_with fail
  refine (R6 _ (HB.out _ _ _)).mono ?_
  rintro e w' ⟨rfl, rfl⟩
  go_wp2_with fail
  rw [rounds_succ]
  go_wp2_with fail
  refine (R7 _ (HB.out _ _ _)).mono ?_
  rintro e w' ⟨rfl, rfl⟩
  go_wp2_with fail
  refine (R8 _ (HB.out _ _ _)).mono ?_
  rintro e w' ⟨rfl, rfl⟩
  go_wp2
  exact bodyPost_ret (v := .tuple #[.agg #[.int .i64 (-id), .string nm, .int .i64 id, .int .i64 1, .int .i64 el, .int .i64 0, .int .i64 0, .slice none 0 0, .slice none 0 0], .bool true]) (by simp [results, Try.results11, go_sem]) rfl ⟨rfl, (((Below.refl _ _).alloc (Nat.le_refl _) _).alloc (by simp) _).alloc (by simp; omega) _⟩

set_option maxHeartbeats 1600000 in
set_option maxRecDepth 100000 in
/-- An array type of length 0. -/
theorem dec0 (g o c N : Nat) (ps : List UInt8) (w : World) (hb : Bytes w g o ps) (id : Int) (nm : ByteArray) (el : Int) (hel : (el == 0) = false) (i0 : 1 ≤ id) (i1 : id ≤ 9223372036854775807) (p1 p2 p3 p4 p5 p6 p7 : Nat)
    (R1 : RI g o c N ps 0 (-id) p1) (R2 : RU g o c N ps p1 1 p2) (R3 : RU g o c N ps p2 1 p3) (R4 : RN g o c N ps p3 nm id p4) (R5 : RU g o c N ps p4 1 p5) (R6 : RI g o c N ps p5 el p6) (R7 : RU g o c N ps p6 0 p7) (R8 : RU g o c N ps p7 0 N) :
    Calls Try.prog 11 #[.slice (some ⟨g, o, none⟩) N c] w fun e w' => e = .returned (.tuple #[.agg #[.int .i64 (-id), .string nm, .int .i64 id, .int .i64 0, .int .i64 el, .int .i64 0, .int .i64 0, .slice none 0 0, .slice none 0 0], .bool true]) ∧ Below w.heap.size w w' := by
  have HB : Hid (∀ o1 o2 o3, Bytes (((w.alloc o1).alloc o2).alloc o3) g o ps) := fun o1 o2 o3 => ((hb.alloc o1).alloc o2).alloc o3
  clear hb
  go_enter Try.func11, Try.ntmps11
  go_wp2_with fail
  refine (R1 _ (HB.out _ _ _)).mono ?_
  rintro e w' ⟨rfl, rfl⟩
  go_wp2_with fail
  refine (R2 _ (HB.out _ _ _)).mono ?_
  rintro e w' ⟨rfl, rfl⟩
  go_wp2_with fail
  refine wp_loop_rounds 3 ?_
  rw [rounds_succ]
  go_wp2_with fail
  refine (R3 _ (HB.out _ _ _)).mono ?_
  rintro e w' ⟨rfl, rfl⟩
  go_wp2_with fail
  refine (R4 _ (HB.out _ _ _)).mono ?_
  rintro e w' ⟨rfl, rfl⟩
  go_wp2_with fail
  rw [rounds_succ]
  go_wp2_with fail
  refine (R5 _ (HB.out _ _ _)).mono ?_
  rintro e w' ⟨rfl, rfl⟩
  go_wp2_with fail
  refine (R6 _ (HB.out _ _ _)).mono ?_
  rintro e w' ⟨rfl, rfl⟩
  go_wp2_with fail
  rw [rounds_succ]
  go_wp2_with fail
  refine (R7 _ (HB.out _ _ _)).mono ?_
  rintro e w' ⟨rfl, rfl⟩
  go_wp2_with fail
  refine (R8 _ (HB.out _ _ _)).mono ?_
  rintro e w' ⟨rfl, rfl⟩
  go_wp2
  exact bodyPost_ret (v := .tuple #[.agg #[.int .i64 (-id), .string nm, .int .i64 id, .int .i64 0, .int .i64 el, .int .i64 0, .int .i64 0, .slice none 0 0, .slice none 0 0], .bool true]) (by simp [results, Try.results11, go_sem]) rfl ⟨rfl, (((Below.refl _ _).alloc (Nat.le_refl _) _).alloc (by simp) _).alloc (by simp; omega) _⟩

set_option maxHeartbeats 1600000 in
set_option maxRecDepth 100000 in
/-- An array type. -/
theorem dec0l (g o c N : Nat) (ps : List UInt8) (w : World) (hb : Bytes w g o ps) (id : Int) (nm : ByteArray) (el : Int) (hel : (el == 0) = false) (ln : Int) (hln : (ln == 0) = false) (i0 : 1 ≤ id) (i1 : id ≤ 9223372036854775807) (p1 p2 p3 p4 p5 p6 p7 p8 p9 : Nat)
    (R1 : RI g o c N ps 0 (-id) p1) (R2 : RU g o c N ps p1 1 p2) (R3 : RU g o c N ps p2 1 p3) (R4 : RN g o c N ps p3 nm id p4) (R5 : RU g o c N ps p4 1 p5) (R6 : RI g o c N ps p5 el p6) (R7 : RU g o c N ps p6 1 p7) (R8 : RI g o c N ps p7 ln p8) (R9 : RU g o c N ps p8 0 p9) (R10 : RU g o c N ps p9 0 N) :
    Calls Try.prog 11 #[.slice (some ⟨g, o, none⟩) N c] w fun e w' => e = .returned (.tuple #[.agg #[.int .i64 (-id), .string nm, .int .i64 id, .int .i64 0, .int .i64 el, .int .i64 0, .int .i64 ln, .slice none 0 0, .slice none 0 0], .bool true]) ∧ Below w.heap.size w w' := by
  have HB : Hid (∀ o1 o2 o3, Bytes (((w.alloc o1).alloc o2).alloc o3) g o ps) := fun o1 o2 o3 => ((hb.alloc o1).alloc o2).alloc o3
  clear hb
  go_enter Try.func11, Try.ntmps11
  go_wp2_with fail
  refine (R1 _ (HB.out _ _ _)).mono ?_
  rintro e w' ⟨rfl, rfl⟩
  go_wp2_with fail
  refine (R2 _ (HB.out _ _ _)).mono ?_
  rintro e w' ⟨rfl, rfl⟩
  go_wp2_with fail
  refine wp_loop_rounds 4 ?_
  rw [rounds_succ]
  go_wp2_with fail
  refine (R3 _ (HB.out _ _ _)).mono ?_
  rintro e w' ⟨rfl, rfl⟩
  go_wp2_with fail
  refine (R4 _ (HB.out _ _ _)).mono ?_
  rintro e w' ⟨rfl, rfl⟩
  go_wp2_with fail
  rw [rounds_succ]
  go_wp2_with fail
  refine (R5 _ (HB.out _ _ _)).mono ?_
  rintro e w' ⟨rfl, rfl⟩
  go_wp2_with fail
  refine (R6 _ (HB.out _ _ _)).mono ?_
  rintro e w' ⟨rfl, rfl⟩
  go_wp2_with fail
  rw [rounds_succ]
  go_wp2_with fail
  refine (R7 _ (HB.out _ _ _)).mono ?_
  rintro e w' ⟨rfl, rfl⟩
  go_wp2_with fail
  refine (R8 _ (HB.out _ _ _)).mono ?_
  rintro e w' ⟨rfl, rfl⟩
  go_wp2_with fail
  rw [rounds_succ]
  go_wp2_with fail
  refine (R9 _ (HB.out _ _ _)).mono ?_
  rintro e w' ⟨rfl, rfl⟩
  go_wp2_with fail
  refine (R10 _ (HB.out _ _ _)).mono ?_
  rintro e w' ⟨rfl, rfl⟩
  go_wp2
  exact bodyPost_ret (v := .tuple #[.agg #[.int .i64 (-id), .string nm, .int .i64 id, .int .i64 0, .int .i64 el, .int .i64 0, .int .i64 ln, .slice none 0 0, .slice none 0 0], .bool true]) (by simp [results, Try.results11, go_sem]) rfl ⟨rfl, (((Below.refl _ _).alloc (Nat.le_refl _) _).alloc (by simp) _).alloc (by simp; omega) _⟩

set_option maxHeartbeats 1600000 in
set_option maxRecDepth 100000 in
/-- A map type. -/
theorem dec3 (g o c N : Nat) (ps : List UInt8) (w : World) (hb : Bytes w g o ps) (id : Int) (nm : ByteArray) (ky : Int) (hky : (ky == 0) = false) (el : Int) (hel : (el == 0) = false) (i0 : 1 ≤ id) (i1 : id ≤ 9223372036854775807) (p1 p2 p3 p4 p5 p6 p7 p8 p9 : Nat)
    (R1 : RI g o c N ps 0 (-id) p1) (R2 : RU g o c N ps p1 4 p2) (R3 : RU g o c N ps p2 1 p3) (R4 : RN g o c N ps p3 nm id p4) (R5 : RU g o c N ps p4 1 p5) (R6 : RI g o c N ps p5 ky p6) (R7 : RU g o c N ps p6 1 p7) (R8 : RI g o c N ps p7 el p8) (R9 : RU g o c N ps p8 0 p9) (R10 : RU g o c N ps p9 0 N) :
    Calls Try.prog 11 #[.slice (some ⟨g, o, none⟩) N c] w fun e w' => e = .returned (.tuple #[.agg #[.int .i64 (-id), .string nm, .int .i64 id, .int .i64 3, .int .i64 el, .int .i64 ky, .int .i64 0, .slice none 0 0, .slice none 0 0], .bool true]) ∧ Below w.heap.size w w' := by
  have HB : Hid (∀ o1 o2 o3, Bytes (((w.alloc o1).alloc o2).alloc o3) g o ps) := fun o1 o2 o3 => ((hb.alloc o1).alloc o2).alloc o3
  clear hb
  go_enter Try.func11, Try.ntmps11
  go_wp2_with fail
  refine (R1 _ (HB.out _ _ _)).mono ?_
  rintro e w' ⟨rfl, rfl⟩
  go_wp2_with fail
  refine (R2 _ (HB.out _ _ _)).mono ?_
  rintro e w' ⟨rfl, rfl⟩
  go_wp2_with fail
  refine wp_loop_rounds 4 ?_
  rw [rounds_succ]
  go_wp2_with fail
  refine (R3 _ (HB.out _ _ _)).mono ?_
  rintro e w' ⟨rfl, rfl⟩
  go_wp2_with fail
  refine (R4 _ (HB.out _ _ _)).mono ?_
  rintro e w' ⟨rfl, rfl⟩
  go_wp2_with fail
  rw [rounds_succ]
  go_wp2_with fail
  refine (R5 _ (HB.out _ _ _)).mono ?_
  rintro e w' ⟨rfl, rfl⟩
  go_wp2_with fail
  refine (R6 _ (HB.out _ _ _)).mono ?_
  rintro e w' ⟨rfl, rfl⟩
  go_wp2_with fail
  rw [rounds_succ]
  go_wp2_with fail
  refine (R7 _ (HB.out _ _ _)).mono ?_
  rintro e w' ⟨rfl, rfl⟩
  go_wp2_with fail
  refine (R8 _ (HB.out _ _ _)).mono ?_
  rintro e w' ⟨rfl, rfl⟩
  go_wp2_with fail
  rw [rounds_succ]
  go_wp2_with fail
  refine (R9 _ (HB.out _ _ _)).mono ?_
  rintro e w' ⟨rfl, rfl⟩
  go_wp2_with fail
  refine (R10 _ (HB.out _ _ _)).mono ?_
  rintro e w' ⟨rfl, rfl⟩
  go_wp2
  exact bodyPost_ret (v := .tuple #[.agg #[.int .i64 (-id), .string nm, .int .i64 id, .int .i64 3, .int .i64 el, .int .i64 ky, .int .i64 0, .slice none 0 0, .slice none 0 0], .bool true]) (by simp [results, Try.results11, go_sem]) rfl ⟨rfl, (((Below.refl _ _).alloc (Nat.le_refl _) _).alloc (by simp) _).alloc (by simp; omega) _⟩

set_option maxHeartbeats 1600000 in
set_option maxRecDepth 100000 in
/-- A struct type without fields. -/
theorem dec2n (g o c N : Nat) (ps : List UInt8) (w : World) (hb : Bytes w g o ps) (id : Int) (nm : ByteArray)  (i0 : 1 ≤ id) (i1 : id ≤ 9223372036854775807) (p1 p2 p3 p4 p5 : Nat)
    (R1 : RI g o c N ps 0 (-id) p1) (R2 : RU g o c N ps p1 3 p2) (R3 : RU g o c N ps p2 1 p3) (R4 : RN g o c N ps p3 nm id p4) (R5 : RU g o c N ps p4 0 p5) (R6 : RU g o c N ps p5 0 N) :
    Calls Try.prog 11 #[.slice (some ⟨g, o, none⟩) N c] w fun e w' => e = .returned (.tuple #[.agg #[.int .i64 (-id), .string nm, .int .i64 id, .int .i64 2, .int .i64 0, .int .i64 0, .int .i64 0, .slice none 0 0, .slice none 0 0], .bool true]) ∧ Below w.heap.size w w' := by
  have HB : Hid (∀ o1 o2 o3, Bytes (((w.alloc o1).alloc o2).alloc o3) g o ps) := fun o1 o2 o3 => ((hb.alloc o1).alloc o2).alloc o3
  clear hb
  go_enter Try.func11, Try.ntmps11
  go_wp2_with fail
  refine (R1 _ (HB.out _ _ _)).mono ?_
  rintro e w' ⟨rfl, rfl⟩
  go_wp2_with fail
  refine (R2 _ (HB.out _ _ _)).mono ?_
  rintro e w' ⟨rfl, rfl⟩
  go_wp2_with fail
  refine wp_loop_rounds 2 ?_
  rw [rounds_succ]
  go_wp2_with fail
  refine (R3 _ (HB.out _ _ _)).mono ?_
  rintro e w' ⟨rfl, rfl⟩
  go_wp2_with fail
  refine (R4 _ (HB.out _ _ _)).mono ?_
  rintro e w' ⟨rfl, rfl⟩
  go_wp2_with fail
  rw [rounds_succ]
  go_wp2_with fail
  refine (R5 _ (HB.out _ _ _)).mono ?_
  rintro e w' ⟨rfl, rfl⟩
  go_wp2_with fail
  refine (R6 _ (HB.out _ _ _)).mono ?_
  rintro e w' ⟨rfl, rfl⟩
  go_wp2
  exact bodyPost_ret (v := .tuple #[.agg #[.int .i64 (-id), .string nm, .int .i64 id, .int .i64 2, .int .i64 0, .int .i64 0, .int .i64 0, .slice none 0 0, .slice none 0 0], .bool true]) (by simp [results, Try.results11, go_sem]) rfl ⟨rfl, (((Below.refl _ _).alloc (Nat.le_refl _) _).alloc (by simp) _).alloc (by simp; omega) _⟩

end Go.Proofs.Qxb6625815a
