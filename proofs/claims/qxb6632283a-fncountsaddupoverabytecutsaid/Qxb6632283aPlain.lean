import Derived.Test.Qxb6632283aRows
import Derived.WalkKit
import Derived.ProofKit
import Derived.Below
import Derived.Deep.OwnRows
import Derived.WalkSpells
import Derived.WalkLawsBesides
import Derived.Deep.RegionHeld3
import Derived.Deep.DrawnRows
namespace Go.Proofs.Qxb6632283a
open Go.RowKit

/-! ### The plain law: no Go in sight -/
/-- Person i's code: digit i % 4 to base 4 of byte i / 4. -/
def dg (y : Nat → Nat) (i : Nat) : Nat := y (i / 4) / 4 ^ (i % 4) % 4
/-- How many of the first m persons have code v. -/
def cnt (y : Nat → Nat) (v : Nat) : Nat → Nat
  | 0 => 0
  | m + 1 => cnt y v m + (if dg y m = v then 1 else 0)

theorem dg_lt (y : Nat → Nat) (i : Nat) : dg y i < 4 := Nat.mod_lt _ (by omega)
theorem cnt_le (y : Nat → Nat) (v : Nat) : ∀ m, cnt y v m ≤ m
  | 0 => Nat.le_refl _
  | m + 1 => by
    have := cnt_le y v m
    simp only [cnt]
    split <;> omega
theorem cnt_sum (y : Nat → Nat) : ∀ m, cnt y 3 m + cnt y 2 m + cnt y 0 m + cnt y 1 m = m
  | 0 => rfl
  | m + 1 => by
    have h := cnt_sum y m
    have hd := dg_lt y m
    simp only [cnt]
    rcases (show dg y m = 0 ∨ dg y m = 1 ∨ dg y m = 2 ∨ dg y m = 3 from by omega) with e | e | e | e <;> simp [e] <;> omega
theorem dg_shift (y : Nat → Nat) (k r : Nat) : dg y (4 * k + r) = dg (fun j => y (k + j)) r := by
  unfold dg
  rw [show (4 * k + r) / 4 = k + r / 4 from by omega, show (4 * k + r) % 4 = r % 4 from by omega]
theorem cnt_split (y : Nat → Nat) (v k : Nat) : ∀ r, cnt y v (4 * k + r) = cnt y v (4 * k) + cnt (fun j => y (k + j)) v r
  | 0 => rfl
  | r + 1 => by
    rw [show 4 * k + (r + 1) = (4 * k + r) + 1 from by omega]
    simp only [cnt]
    rw [cnt_split y v k r, dg_shift]
    omega

theorem dg_at (y : Nat → Nat) (t j : Nat) (hj : j < 4) : dg y (4 * t + j) = y t / 4 ^ j % 4 := by
  unfold dg
  rw [show (4 * t + j) / 4 = t from by omega, show (4 * t + j) % 4 = j from by omega]

theorem and3_fin : ∀ n : Fin 256, bits BinOp.and IntKind.u8 (n.val : Int) 3 = ((n.val % 4 : Nat) : Int) := by decide +kernel
theorem and3 (b : Nat) (h : b < 256) : bits BinOp.and IntKind.u8 (b : Int) 3 = ((b % 4 : Nat) : Int) := and3_fin ⟨b, h⟩

/-! ### Memory -/
theorem kept_of_below {w w' : World} (h : Below w.heap.size w w') : ∀ a v, w.cell? a = some v → w'.cell? a = some v :=
  fun _ _ hv => (h.cell (World.block_lt_of_cell? w _ hv)).trans hv
/-- A row of bytes: len of them from offset ao of block ab on. -/
structure BytesAt (w : World) (a : Option Addr) (ab ao len : Nat) (y : Nat → Nat) : Prop where
  form : len ≤ 0 ∨ a = some ⟨ab, ao, none⟩
  cell : ∀ i, i < len → w.cell? ⟨ab, ao + i, none⟩ = some (.int .u8 (y i : Int))
  lt : ∀ i, i < len → y i < 256

/-- The four counters. -/
def cntFn (y : Nat → Nat) (m : Nat) : Nat → Value := fun v => .int .i64 (cnt y v m : Int)

theorem cnt_step {w : World} {nb T m d : Nat} {y : Nat → Nat} (h : w.rowIs nb T 4 (cntFn y m)) (hd : dg y m = d) :
    (w.setCell ⟨nb, d, none⟩ (.int .i64 ((cnt y d m : Int) + 1))).rowIs nb T 4 (cntFn y (m + 1)) := by
  refine (h.set d _).congr (fun v hv => ?_)
  simp only [cntFn, cnt]
  by_cases e : v = d
  · subst e; rw [if_pos rfl, if_pos hd]; simp
  · rw [if_neg e, if_neg (by omega)]; simp

theorem i5 : (Try.prog.info? 5).map (fun i => (i.zero, i.size, i.bytes)) = some (some (.int .u8 0), 1, 1) := by kernel_rfl

end Go.Proofs.Qxb6632283a
