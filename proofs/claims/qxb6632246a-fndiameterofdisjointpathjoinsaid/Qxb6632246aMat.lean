import Derived.Test.Qxb6632246aDiamWalk
import Derived.Test.Qxb6632246aFloyd
namespace Go.Proofs.Qxb6632246a
open Go.RowKit

/-- The arcs of a row before number c lead to j. -/
def edgeTo (r : RowG) : Nat → Nat → Bool
  | 0, _ => false
  | c + 1, j => edgeTo r c j || (posB (r.pb c) && decide (r.to c = (j : Int)))

theorem edgeTo_iff (r : RowG) (j : Nat) : ∀ m, edgeTo r m j = true ↔ ∃ c, c < m ∧ posB (r.pb c) = true ∧ r.to c = (j : Int)
  | 0 => by simp [edgeTo]
  | m + 1 => by
    simp only [edgeTo, Bool.or_eq_true, Bool.and_eq_true, decide_eq_true_eq, edgeTo_iff r j m]
    constructor
    · rintro (⟨c, hc, h⟩ | ⟨h1, h2⟩)
      · exact ⟨c, by omega, h⟩
      · exact ⟨m, by omega, h1, h2⟩
    · rintro ⟨c, hc, h1, h2⟩
      by_cases e : c = m
      · subst e; exact Or.inr ⟨h1, h2⟩
      · exact Or.inl ⟨c, by omega, h1, h2⟩

theorem edge_iff {R : Nat → RowG} {i j : Nat} : edgeTo (R i) (R i).rl j = true ↔ Edge R i j := edgeTo_iff _ _ _

/-! ### The matrix in memory -/
def cellsD (n : Nat) (D : Nat → Nat → Int) : Nat → Value := fun t => .int .i64 (D (t / n) (t % n))

structure Mat (w wr : World) (n N : Nat) (D : Nat → Nat → Int) : Prop where
  row : wr.rowIs w.heap.size 3 N (cellsD n D)
  b : Below w.heap.size w wr
  sq : N = n * n

theorem Mat.drew {w wr : World} {n N : Nat} {D : Nat → Nat → Int} (h : Mat w wr n N D) : Mat w wr.drew n N D := ⟨h.row.drew, h.b.drew, h.sq⟩
theorem Mat.alloc {w wr : World} {n N : Nat} {D : Nat → Nat → Int} (h : Mat w wr n N D) (o : Obj) : Mat w (wr.alloc o) n N D := ⟨h.row.alloc o, h.b.alloc h.b.size o, h.sq⟩
theorem Mat.congr {w wr : World} {n N : Nat} {D E : Nat → Nat → Int} (h : Mat w wr n N D) (e : ∀ i j, i < n → j < n → D i j = E i j) : Mat w wr n N E := by
  refine ⟨h.row.congr (fun t ht => ?_), h.b, h.sq⟩
  have hs := h.sq
  have hn : 0 < n := by
    rcases Nat.eq_zero_or_pos n with e | e
    · subst e; omega
    · exact e
  simp only [cellsD]
  rw [e _ _ (Nat.div_lt_of_lt_mul (by omega)) (Nat.mod_lt _ hn)]
theorem Mat.cell {w wr : World} {n N : Nat} {D : Nat → Nat → Int} (h : Mat w wr n N D) {i j t : Nat} (ht : t = i * n + j) (hi : i < n) (hj : j < n) : wr.cell? ⟨w.heap.size, t, none⟩ = some (.int .i64 (D i j)) := by
  subst ht
  have := h.row.cell (i := i * n + j) (by rw [h.sq]; exact flat_lt hi hj)
  rw [cellsD, flat_div hj, flat_mod hj] at this
  exact this
theorem Mat.frozen {w wr : World} {n N : Nat} {D : Nat → Nat → Int} (h : Mat w wr n N D) (t : Nat) : wr.frozen? ⟨w.heap.size, t, none⟩ = false := h.row.frozen t
theorem Mat.set {w wr : World} {n N : Nat} {D E : Nat → Nat → Int} {x : Int} (h : Mat w wr n N D) {i j t : Nat} (ht : t = i * n + j) (hj : j < n) (he : ∀ a b, a < n → b < n → (if a = i ∧ b = j then x else D a b) = E a b) :
    Mat w (wr.setCell ⟨w.heap.size, t, none⟩ (.int .i64 x)) n N E := by
  have hm : Mat w (wr.setCell ⟨w.heap.size, t, none⟩ (.int .i64 x)) n N (fun a b => if a = i ∧ b = j then x else D a b) := by
    refine ⟨(h.row.set t _).congr (fun s hs => ?_), h.b.setCell (by simp) _, h.sq⟩
    simp only [cellsD]
    have e : s = t ↔ s / n = i ∧ s % n = j := by rw [ht]; exact flat_eq hj
    by_cases c : s = t
    · rw [if_pos c, if_pos (e.1 c)]
    · rw [if_neg c, if_neg (fun h => c (e.2 h))]
  exact hm.congr he

theorem mat_start (w : World) (n N : Nat) (hN : N = n * n) : Mat w (w.alloc (.cells (madeCells #[.int .i64 0] N) 3)) n N (fun _ _ => 0) :=
  ⟨World.rowIs_made w (.int .i64 0) N 3, (Below.refl _ _).alloc (Nat.le_refl _) _, hN⟩

/-! ### The first two loops: inf off the diagonal -/
def fill (i0 j0 : Nat) : Nat → Nat → Int := fun i j => if (i < i0 ∨ (i = i0 ∧ j < j0)) ∧ i ≠ j then inf else 0
theorem fill_diag (i0 i j : Nat) : fill i0 i0 i j = fill i0 (i0 + 1) i j := by
  unfold fill
  by_cases e : (i < i0 ∨ (i = i0 ∧ j < i0)) ∧ i ≠ j
  · rw [if_pos e, if_pos (by omega)]
  · rw [if_neg e, if_neg (by omega)]
theorem fill_set {i0 j0 : Nat} (h : i0 ≠ j0) (i j : Nat) : (if i = i0 ∧ j = j0 then (1048576 : Int) else fill i0 j0 i j) = fill i0 (j0 + 1) i j := by
  unfold fill
  by_cases e : i = i0 ∧ j = j0
  · rw [if_pos e, if_pos (by omega)]
  · rw [if_neg e]
    by_cases e2 : (i < i0 ∨ (i = i0 ∧ j < j0)) ∧ i ≠ j
    · rw [if_pos e2, if_pos (by omega)]
    · rw [if_neg e2, if_neg (by omega)]
theorem fill_row {n i0 i j : Nat} (hj : j < n) : fill i0 n i j = fill (i0 + 1) 0 i j := by
  unfold fill
  by_cases e : (i < i0 ∨ (i = i0 ∧ j < n)) ∧ i ≠ j
  · rw [if_pos e, if_pos (by omega)]
  · rw [if_neg e, if_neg (by omega)]

/-! ### The next two: 1 at an arc -/
def ini (R : Nat → RowG) (i0 c : Nat) : Nat → Nat → Int := fun i j => if i = j then 0 else if (i < i0 ∧ edgeTo (R i) (R i).rl j = true) ∨ (i = i0 ∧ edgeTo (R i) c j = true) then 1 else inf
theorem ini_start {R : Nat → RowG} {n i j : Nat} (hi : i < n) : fill n 0 i j = ini R 0 0 i j := by
  unfold fill ini
  by_cases e : i = j
  · rw [if_neg (by omega), if_pos e]
  · rw [if_pos (by omega), if_neg e, if_neg (by simp [edgeTo])]
theorem edgeTo_succ_other {r : RowG} {c j : Nat} (h : ¬ (posB (r.pb c) = true ∧ r.to c = (j : Int))) : edgeTo r (c + 1) j = edgeTo r c j := by
  simp only [edgeTo]
  have : (posB (r.pb c) && decide (r.to c = (j : Int))) = false := by
    rw [Bool.and_eq_false_iff]
    by_cases e : posB (r.pb c) = true
    · exact Or.inr (by simpa using fun e2 => h ⟨e, e2⟩)
    · exact Or.inl (by simpa using e)
  rw [this, Bool.or_false]
theorem ini_skip {R : Nat → RowG} {i0 c : Nat} (h : posB ((R i0).pb c) = false ∨ (R i0).to c = (i0 : Int)) (i j : Nat) : ini R i0 c i j = ini R i0 (c + 1) i j := by
  unfold ini
  by_cases e : i = j
  · rw [if_pos e, if_pos e]
  · rw [if_neg e, if_neg e]
    by_cases e2 : i = i0
    · subst e2
      rw [edgeTo_succ_other]
      rintro ⟨h1, h2⟩
      rcases h with h | h
      · rw [h] at h1; cases h1
      · omega
    · simp [e2]
theorem ini_set {R : Nat → RowG} {i0 c v : Nat} (hp : posB ((R i0).pb c) = true) (hv : (R i0).to c = (v : Int)) (hne : v ≠ i0) (i j : Nat) : (if i = i0 ∧ j = v then (1 : Int) else ini R i0 c i j) = ini R i0 (c + 1) i j := by
  unfold ini
  by_cases e : i = i0 ∧ j = v
  · obtain ⟨rfl, rfl⟩ := e
    rw [if_pos ⟨rfl, rfl⟩, if_neg (by omega), if_pos]
    refine Or.inr ⟨rfl, ?_⟩
    simp [edgeTo, hp, hv]
  · rw [if_neg e]
    by_cases e1 : i = j
    · rw [if_pos e1, if_pos e1]
    · rw [if_neg e1, if_neg e1]
      by_cases e2 : i = i0
      · subst e2
        rw [edgeTo_succ_other]
        rintro ⟨_, h2⟩
        exact e ⟨rfl, by omega⟩
      · simp [e2]
theorem ini_row {R : Nat → RowG} {i0 : Nat} (i j : Nat) : ini R i0 (R i0).rl i j = ini R (i0 + 1) 0 i j := by
  unfold ini
  by_cases e : i = j
  · rw [if_pos e, if_pos e]
  · rw [if_neg e, if_neg e]
    by_cases e2 : i = i0
    · subst e2
      simp [edgeTo]
    · by_cases e3 : i < i0
      · have e4 : i < i0 + 1 := by omega
        simp [e2, e3, e4, edgeTo]
      · have e4 : ¬ i < i0 + 1 := by omega
        simp [e2, e3, e4, edgeTo]

theorem ini_inv (R : Nat → RowG) (n : Nat) : Inv (Edge R) n 0 (ini R n 0) := by
  have hinf : inf = 1048576 := rfl
  refine ⟨fun i j hi hj => ?_, fun i j hi hj l hl => ?_⟩
  · unfold ini
    split
    · omega
    · split <;> omega
  · unfold ini
    show _ ↔ i = j ∨ (Edge R i j ∧ 1 ≤ l)
    rw [← edge_iff]
    by_cases e : i = j
    · rw [if_pos e]
      exact ⟨fun _ => Or.inl e, fun _ => by omega⟩
    · rw [if_neg e]
      by_cases e2 : edgeTo (R i) (R i).rl j = true
      · rw [if_pos (Or.inl ⟨hi, e2⟩)]
        exact ⟨fun h => Or.inr ⟨e2, by omega⟩, fun h => by
          rcases h with h | h
          · exact absurd h e
          · omega⟩
      · rw [if_neg (by
          rintro (⟨_, h⟩ | ⟨h, _⟩)
          · exact e2 h
          · omega)]
        exact ⟨fun h => by omega, fun h => by
          rcases h with h | h
          · exact absurd h e
          · exact absurd h.1 e2⟩

end Go.Proofs.Qxb6632246a
