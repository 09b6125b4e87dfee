import Derived.Test.Qxb6625815aName
import Derived.BigQuiet
namespace Go.Proofs.Qxb6625815a
open Go.RowKit

/-- The fields of a TypeArg, as they came in. -/
def FIn (w : World) (fv : Value) (fs : List (ByteArray × Int)) : Prop :=
  (fs = [] ∧ ∃ a c, fv = .slice a 0 c ∧ (a = none → c = 0)) ∨
  ∃ b off c, fv = .slice (some ⟨b, off, none⟩) fs.length c ∧ fs.length ≤ 9223372036854775807 ∧ b < w.heap.size ∧ ∀ k (h : k < fs.length), w.cell? ⟨b, off + k * 2, none⟩ = some (.string (fs[k]).1) ∧ w.cell? ⟨b, off + k * 2 + 1, none⟩ = some (.int .i64 (fs[k]).2)

/-- A TypeArg by value. -/
def tyv (t : Enc.Ty) (fv : Value) : Value := .agg #[.int .i64 t.id, .string t.name, .int .i64 t.kind, fv, .int .i64 t.elem, .int .i64 t.key, .int .i64 t.len]

set_option maxHeartbeats 800000 in
set_option maxRecDepth 100000 in
theorem match1 (id el ky ln : Int) (nm : ByteArray) (fv : Value) (w : World) (i0 : 1 ≤ id) (i1 : id ≤ 9223372036854775807) (dk dl fnv fiv : Value) :
    Calls Try.prog 12 #[.agg #[.int .i64 (-id), .string nm, .int .i64 id, .int .i64 1, .int .i64 el, dk, dl, fnv, fiv], .agg #[.int .i64 id, .string nm, .int .i64 1, fv, .int .i64 el, .int .i64 ky, .int .i64 ln]] w fun e w' => e = .returned (.bool true) ∧ Below w.heap.size w w' := by
  go_enter Try.func12, Try.ntmps12
  go_wp2
  go_ret
  exact ⟨rfl, ((Below.refl _ _).alloc (Nat.le_refl _) _).alloc (by simp) _⟩
set_option maxHeartbeats 800000 in
set_option maxRecDepth 100000 in
theorem match0 (id el ky ln : Int) (nm : ByteArray) (fv : Value) (w : World) (i0 : 1 ≤ id) (i1 : id ≤ 9223372036854775807) (dk fnv fiv : Value) :
    Calls Try.prog 12 #[.agg #[.int .i64 (-id), .string nm, .int .i64 id, .int .i64 0, .int .i64 el, dk, .int .i64 ln, fnv, fiv], .agg #[.int .i64 id, .string nm, .int .i64 0, fv, .int .i64 el, .int .i64 ky, .int .i64 ln]] w fun e w' => e = .returned (.bool true) ∧ Below w.heap.size w w' := by
  go_enter Try.func12, Try.ntmps12
  go_wp2
  go_ret
  exact ⟨rfl, ((Below.refl _ _).alloc (Nat.le_refl _) _).alloc (by simp) _⟩
set_option maxHeartbeats 800000 in
set_option maxRecDepth 100000 in
theorem match3 (id el ky ln : Int) (nm : ByteArray) (fv : Value) (w : World) (i0 : 1 ≤ id) (i1 : id ≤ 9223372036854775807) (dl fnv fiv : Value) :
    Calls Try.prog 12 #[.agg #[.int .i64 (-id), .string nm, .int .i64 id, .int .i64 3, .int .i64 el, .int .i64 ky, dl, fnv, fiv], .agg #[.int .i64 id, .string nm, .int .i64 3, fv, .int .i64 el, .int .i64 ky, .int .i64 ln]] w fun e w' => e = .returned (.bool true) ∧ Below w.heap.size w w' := by
  go_enter Try.func12, Try.ntmps12
  go_wp2
  go_ret
  exact ⟨rfl, ((Below.refl _ _).alloc (Nat.le_refl _) _).alloc (by simp) _⟩
set_option maxHeartbeats 800000 in
set_option maxRecDepth 100000 in
theorem match2_0 (id el ky ln : Int) (nm : ByteArray) (a : Option Addr) (c : Nat) (w : World) (i0 : 1 ≤ id) (i1 : id ≤ 9223372036854775807) (de dk dl fiv : Value) :
    Calls Try.prog 12 #[.agg #[.int .i64 (-id), .string nm, .int .i64 id, .int .i64 2, de, dk, dl, .slice none 0 0, fiv], .agg #[.int .i64 id, .string nm, .int .i64 2, .slice a 0 c, .int .i64 el, .int .i64 ky, .int .i64 ln]] w fun e w' => e = .returned (.bool true) ∧ Below w.heap.size w w' := by
  go_enter Try.func12, Try.ntmps12
  go_wp2_with fail
  refine wp_loop_rounds 1 ?_
  rw [rounds_succ]
  go_wp2
  go_ret
  exact ⟨rfl, ((Below.refl _ _).alloc (Nat.le_refl _) _).alloc (by simp) _⟩
set_option maxHeartbeats 1600000 in
set_option maxRecDepth 100000 in
theorem match2 (id el ky ln : Int) (nm : ByteArray) (b off c n gn cn gi ci : Nat) (fs : List (ByteArray × Int)) (w : World) (i0 : 1 ≤ id) (i1 : id ≤ 9223372036854775807) (de dk dl : Value) (hn : fs.length = n) (hn1 : n ≤ 1048576)
    (hin : ∀ k (h : k < fs.length), w.cell? ⟨b, off + k * 2, none⟩ = some (.string (fs[k]).1) ∧ w.cell? ⟨b, off + k * 2 + 1, none⟩ = some (.int .i64 (fs[k]).2))
    (hd : ∀ k (h : k < fs.length), w.cell? ⟨gn, k, none⟩ = some (.string (fs[k]).1) ∧ w.cell? ⟨gi, k, none⟩ = some (.int .i64 (fs[k]).2)) (hbl : b < w.heap.size) (hgl : gn < w.heap.size) (hil : gi < w.heap.size) :
    Calls Try.prog 12 #[.agg #[.int .i64 (-id), .string nm, .int .i64 id, .int .i64 2, de, dk, dl, .slice (some ⟨gn, 0, none⟩) n cn, .slice (some ⟨gi, 0, none⟩) n ci], .agg #[.int .i64 id, .string nm, .int .i64 2, .slice (some ⟨b, off, none⟩) n c, .int .i64 el, .int .i64 ky, .int .i64 ln]] w fun e w' => e = .returned (.bool true) ∧ Below w.heap.size w w' := by
  have HN : Hid (fs.length = n) := hn
  have HI : Hid (∀ k (h : k < fs.length) o1 o2, ((w.alloc o1).alloc o2).cell? ⟨b, off + k * 2, none⟩ = some (.string (fs[k]).1) ∧ ((w.alloc o1).alloc o2).cell? ⟨b, off + k * 2 + 1, none⟩ = some (.int .i64 (fs[k]).2)) := by
    intro k h o1 o2
    have hb : ∀ o, ((w.alloc o1).alloc o2).cell? ⟨b, o, none⟩ = w.cell? ⟨b, o, none⟩ := fun o => World.cell?_of_block (by rw [Below.heap_alloc _ _ _ (by simp; omega), Below.heap_alloc _ _ _ hbl])
    rw [hb, hb]; exact hin k h
  have HD : Hid (∀ k (h : k < fs.length) o1 o2, ((w.alloc o1).alloc o2).cell? ⟨gn, k, none⟩ = some (.string (fs[k]).1) ∧ ((w.alloc o1).alloc o2).cell? ⟨gi, k, none⟩ = some (.int .i64 (fs[k]).2)) := by
    intro k h o1 o2
    have hb : ((w.alloc o1).alloc o2).cell? ⟨gn, k, none⟩ = w.cell? ⟨gn, k, none⟩ := World.cell?_of_block (by rw [Below.heap_alloc _ _ _ (by simp; omega), Below.heap_alloc _ _ _ hgl])
    have hb2 : ((w.alloc o1).alloc o2).cell? ⟨gi, k, none⟩ = w.cell? ⟨gi, k, none⟩ := World.cell?_of_block (by rw [Below.heap_alloc _ _ _ (by simp; omega), Below.heap_alloc _ _ _ hil])
    rw [hb, hb2]; exact hd k h
  clear hn hin hd hbl hgl hil
  go_enter Try.func12, Try.ntmps12
  go_wp2_with fail
  go_loopw [5] (fun i wr => ∃ k q : Nat, k ≤ n ∧ i = .int .i64 k ∧ wr = (((w.alloc (.cells #[.int .i64 (-id), .string nm, .int .i64 id, .int .i64 2, de, dk, dl, .slice (some ⟨gn, 0, none⟩) n cn, .slice (some ⟨gi, 0, none⟩) n ci] 38)).alloc (.cells #[.int .i64 id, .string nm, .int .i64 2, .slice (some ⟨b, off, none⟩) n c, .int .i64 el, .int .i64 ky, .int .i64 ln] 25)).drewN q)) (fun i _ => n - (intOf i).toNat)
  case atStart => exact ⟨0, 0, by omega, rfl, rfl⟩
  case round =>
    obtain ⟨k, q, hk, rfl, rfl⟩ := hrel
    by_cases hlt : k < n
    · have hkl : k < fs.length := by rw [HN.out]; exact hlt
      obtain ⟨a1, a2⟩ := HI.out k hkl (.cells #[.int .i64 (-id), .string nm, .int .i64 id, .int .i64 2, de, dk, dl, .slice (some ⟨gn, 0, none⟩) n cn, .slice (some ⟨gi, 0, none⟩) n ci] 38) (.cells #[.int .i64 id, .string nm, .int .i64 2, .slice (some ⟨b, off, none⟩) n c, .int .i64 el, .int .i64 ky, .int .i64 ln] 25)
      obtain ⟨a3, a4⟩ := HD.out k hkl (.cells #[.int .i64 (-id), .string nm, .int .i64 id, .int .i64 2, de, dk, dl, .slice (some ⟨gn, 0, none⟩) n cn, .slice (some ⟨gi, 0, none⟩) n ci] 38) (.cells #[.int .i64 id, .string nm, .int .i64 2, .slice (some ⟨b, off, none⟩) n c, .int .i64 el, .int .i64 ky, .int .i64 ln] 25)
      generalize (fs[k]).1 = fnm at *
      generalize (fs[k]).2 = fid at *
      go_wp2_with fail
      go_quiet (fail)
      go_wp2
      go_roundw
      case rel => exact ⟨k + 1, _, by omega, by go_num, rfl⟩
      case measure => simp [intOf]; omega
    · go_wp2
      go_ret
      exact ⟨rfl, (((Below.refl _ _).alloc (Nat.le_refl _) _).alloc (by simp) _).trans ⟨rfl, rfl, rfl, Nat.le_refl _, fun _ _ => rfl⟩⟩
end Go.Proofs.Qxb6625815a
