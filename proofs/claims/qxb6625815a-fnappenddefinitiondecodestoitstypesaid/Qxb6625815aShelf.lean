import Derived.Test.Qxb6625815aProg
import Derived.Shelf.Bin.BEPutUint64
import Derived.Shelf.Strconv.Itoa0
import Derived.KernelRfl
namespace Go.Proofs.Qxb6625815a
open Go.Shelf

/-- Where the shelf's numbers lie in this program: PutUint64. -/
def ren43 : Ren := ⟨fun _ => 22, fun n => if n = 33 then 51 else if n = 37 then 65 else if n = 45 then 61 else n, fun n => n⟩
/-- .. bits.Len64. -/
def ren129 : Ren := ⟨fun _ => 21, fun n => if n = 46 then 61 else if n = 53 then 51 else n, fun n => n⟩
theorem lays43 : LaysBin.n43 Try.prog ren43 :=
  { mixed := by kernel_rfl,
    f43 := by kernel_rfl,
    t0 := by kernel_rfl,
    a0 := fun _ => by kernel_rfl,
    z0 := fun _ => by kernel_rfl,
    v0 := fun _ => by kernel_rfl,
    i0 := by kernel_rfl,
    t5 := by kernel_rfl,
    a5 := fun _ => by kernel_rfl,
    z5 := fun _ => by kernel_rfl,
    v5 := fun _ => by kernel_rfl,
    i5 := by kernel_rfl,
    t22 := by kernel_rfl,
    a22 := fun _ => by kernel_rfl,
    z22 := fun _ => by kernel_rfl,
    v22 := fun _ => by kernel_rfl,
    i22 := by kernel_rfl,
    t33 := by kernel_rfl,
    a33 := fun _ => by kernel_rfl,
    z33 := fun _ => by kernel_rfl,
    v33 := fun _ => by kernel_rfl,
    i33 := by kernel_rfl,
    t37 := by kernel_rfl,
    a37 := fun _ => by kernel_rfl,
    z37 := fun _ => by kernel_rfl,
    v37 := fun _ => by kernel_rfl,
    i37 := by kernel_rfl,
    t45 := by kernel_rfl,
    a45 := fun _ => by kernel_rfl,
    z45 := fun _ => by kernel_rfl,
    v45 := fun _ => by kernel_rfl,
    i45 := by kernel_rfl }
theorem lays129 : Lays.n129 Try.prog ren129 :=
  { mixed := by kernel_rfl,
    f129 := by kernel_rfl,
    t3 := by kernel_rfl,
    a3 := fun _ => by kernel_rfl,
    z3 := fun _ => by kernel_rfl,
    v3 := fun _ => by kernel_rfl,
    t4 := by kernel_rfl,
    a4 := fun _ => by kernel_rfl,
    z4 := fun _ => by kernel_rfl,
    v4 := fun _ => by kernel_rfl,
    t5 := by kernel_rfl,
    a5 := fun _ => by kernel_rfl,
    z5 := fun _ => by kernel_rfl,
    v5 := fun _ => by kernel_rfl,
    t9 := by kernel_rfl,
    a9 := fun _ => by kernel_rfl,
    z9 := fun _ => by kernel_rfl,
    v9 := fun _ => by kernel_rfl,
    t46 := by kernel_rfl,
    a46 := fun _ => by kernel_rfl,
    z46 := fun _ => by kernel_rfl,
    v46 := fun _ => by kernel_rfl,
    t53 := by kernel_rfl,
    a53 := fun _ => by kernel_rfl,
    z53 := fun _ => by kernel_rfl,
    v53 := fun _ => by kernel_rfl }

/-- bits.Len64, in this program's numbers. -/
theorem len64 (x : Nat) (w : World) (h1 : x < 18446744073709551616) :
    Calls Try.prog 21 #[.int .u64 x] w fun e w' => e = .returned (.int .i64 (Lib.bitLen x)) ∧ w' = w := by
  have h := Any.bits_Len64 lays129 (x : Int) w (by omega) (by omega)
  rw [Int.toNat_natCast] at h
  exact h
end Go.Proofs.Qxb6625815a
