import Derived.WalkKit
namespace Go.Proofs.Qxb6631318aFmt

/-- The sum of the first n. -/
def psum (Z : Nat → Int) : Nat → Int
  | 0 => 0
  | n + 1 => psum Z n + Z n
/-- The least of the first n (0 for none). -/
def loOf (Z : Nat → Int) : Nat → Int
  | 0 => 0
  | n + 1 => if n = 0 ∨ Z n < loOf Z n then Z n else loOf Z n
def hiOf (Z : Nat → Int) : Nat → Int
  | 0 => 0
  | n + 1 => if n = 0 ∨ hiOf Z n < Z n then Z n else hiOf Z n

def Fits64 (x : Int) : Prop := -9223372036854775808 ≤ x ∧ x ≤ 9223372036854775807
def NoOv (Z : Nat → Int) (n : Nat) : Prop := ∀ k, k ≤ n → Fits64 (psum Z k)
theorem NoOv.zero (Z : Nat → Int) : NoOv Z 0 := fun k hk => by
  obtain rfl : k = 0 := by omega
  simp [psum, Fits64]
theorem NoOv.succ {Z : Nat → Int} {n : Nat} (h : NoOv Z n) (h1 : Fits64 (psum Z n + Z n)) : NoOv Z (n + 1) := fun k hk => by
  by_cases e : k = n + 1
  · subst e; exact h1
  · exact h k (by omega)

theorem loOf_fits {Z : Nat → Int} {len : Nat} (h : ∀ i, i < len → Fits64 (Z i)) : ∀ n, n ≤ len → Fits64 (loOf Z n)
  | 0, _ => by simp [loOf, Fits64]
  | n + 1, hn => by
    unfold loOf
    split
    · exact h n (by omega)
    · exact loOf_fits h n (by omega)
theorem hiOf_fits {Z : Nat → Int} {len : Nat} (h : ∀ i, i < len → Fits64 (Z i)) : ∀ n, n ≤ len → Fits64 (hiOf Z n)
  | 0, _ => by simp [hiOf, Fits64]
  | n + 1, hn => by
    unfold hiOf
    split
    · exact h n (by omega)
    · exact hiOf_fits h n (by omega)

/-! ### Parts -/
theorem psum_parts (Z : Nat → Int) (k : Nat) : ∀ n, psum Z (k + n) = psum Z k + psum (fun i => Z (k + i)) n
  | 0 => by simp [psum]
  | n + 1 => by
    show psum Z (k + n) + Z (k + n) = psum Z k + (psum (fun i => Z (k + i)) n + Z (k + n))
    rw [psum_parts Z k n]; omega

theorem loOf_parts (Z : Nat → Int) (k : Nat) (hk : 0 < k) : ∀ n, loOf Z (k + (n + 1)) = if loOf (fun i => Z (k + i)) (n + 1) < loOf Z k then loOf (fun i => Z (k + i)) (n + 1) else loOf Z k
  | 0 => by
    have hk0 : ¬ k = 0 := by omega
    show (if k = 0 ∨ Z k < loOf Z k then Z k else loOf Z k) = _
    simp [loOf, hk0]
  | n + 1 => by
    have ih := loOf_parts Z k hk n
    show (if k + (n + 1) = 0 ∨ Z (k + (n + 1)) < loOf Z (k + (n + 1)) then Z (k + (n + 1)) else loOf Z (k + (n + 1))) = _
    rw [ih]
    show _ = if (if n + 1 = 0 ∨ Z (k + (n + 1)) < loOf (fun i => Z (k + i)) (n + 1) then Z (k + (n + 1)) else loOf (fun i => Z (k + i)) (n + 1)) < loOf Z k then (if n + 1 = 0 ∨ Z (k + (n + 1)) < loOf (fun i => Z (k + i)) (n + 1) then Z (k + (n + 1)) else loOf (fun i => Z (k + i)) (n + 1)) else loOf Z k
    generalize loOf (fun i => Z (k + i)) (n + 1) = m at *
    generalize loOf Z k = l at *
    generalize Z (k + (n + 1)) = z at *
    have e1 : ¬ k + (n + 1) = 0 := by omega
    have e2 : ¬ n + 1 = 0 := by omega
    simp only [e1, e2, false_or]
    by_cases a1 : m < l <;> by_cases a2 : z < m <;> by_cases a3 : z < l <;> simp [a1, a2, a3] <;> omega

theorem hiOf_parts (Z : Nat → Int) (k : Nat) (hk : 0 < k) : ∀ n, hiOf Z (k + (n + 1)) = if hiOf Z k < hiOf (fun i => Z (k + i)) (n + 1) then hiOf (fun i => Z (k + i)) (n + 1) else hiOf Z k
  | 0 => by
    have hk0 : ¬ k = 0 := by omega
    show (if k = 0 ∨ hiOf Z k < Z k then Z k else hiOf Z k) = _
    simp [hiOf, hk0]
  | n + 1 => by
    have ih := hiOf_parts Z k hk n
    show (if k + (n + 1) = 0 ∨ hiOf Z (k + (n + 1)) < Z (k + (n + 1)) then Z (k + (n + 1)) else hiOf Z (k + (n + 1))) = _
    rw [ih]
    show _ = if hiOf Z k < (if n + 1 = 0 ∨ hiOf (fun i => Z (k + i)) (n + 1) < Z (k + (n + 1)) then Z (k + (n + 1)) else hiOf (fun i => Z (k + i)) (n + 1)) then (if n + 1 = 0 ∨ hiOf (fun i => Z (k + i)) (n + 1) < Z (k + (n + 1)) then Z (k + (n + 1)) else hiOf (fun i => Z (k + i)) (n + 1)) else hiOf Z k
    generalize hiOf (fun i => Z (k + i)) (n + 1) = m at *
    generalize hiOf Z k = l at *
    generalize Z (k + (n + 1)) = z at *
    have e1 : ¬ k + (n + 1) = 0 := by omega
    have e2 : ¬ n + 1 = 0 := by omega
    simp only [e1, e2, false_or]
    by_cases a1 : l < m <;> by_cases a2 : m < z <;> by_cases a3 : l < z <;> simp [a1, a2, a3] <;> omega

end Go.Proofs.Qxb6631318aFmt
