import Derived.Test.Qxb6631263aSame
import Derived.Test.Qxb6631263aLawA
namespace Go.Proofs.Qxb6631263a
open Go.RowKit Go.Maps

def rowCells (r : RowD) : List Value := [.string r.id, .slice r.ca r.cl r.cc, .int .i64 r.past]
def gcells (G : Nat → RowD) : Nat → List Value
  | 0 => []
  | n + 1 => gcells G n ++ rowCells (G n)

theorem gcells_length (G : Nat → RowD) : ∀ n, (gcells G n).length = n * 3
  | 0 => rfl
  | n + 1 => by simp [gcells, gcells_length G n, rowCells]; omega

theorem gcells_at (G : Nat → RowD) {t : Nat} (ht : t < 3) : ∀ n i, i < n → (gcells G n)[i * 3 + t]? = (rowCells (G i))[t]?
  | 0, i, h => by omega
  | n + 1, i, h => by
    unfold gcells
    by_cases e : i = n
    · subst e
      rw [List.getElem?_append_right (by rw [gcells_length]; omega), gcells_length]
      congr 1
      omega
    · rw [List.getElem?_append_left (by rw [gcells_length]; omega)]
      exact gcells_at G ht n i (by omega)

theorem gcells_snoc {G : Nat → RowD} {n : Nat} {r : RowD} (h : G n = r) : gcells G n ++ rowCells r = gcells G (n + 1) := by rw [gcells, h]

/-- The rows with one more at place j. -/
def ins (R : Nat → RowD) (x : RowD) (j : Nat) : Nat → RowD := fun i => if i < j then R i else if i = j then x else R (i - 1)
theorem ins_lt {R : Nat → RowD} {x : RowD} {j i : Nat} (h : i < j) : ins R x j i = R i := by simp [ins, h]
theorem ins_eq {R : Nat → RowD} {x : RowD} {j : Nat} : ins R x j j = x := by simp [ins]
theorem ins_gt {R : Nat → RowD} {x : RowD} {j i : Nat} (h : j ≤ i) : ins R x j (i + 1) = R i := by
  simp only [ins]
  rw [if_neg (by omega), if_neg (by omega)]
  rfl

theorem ins_all {p : RowD → Prop} {R : Nat → RowD} {x : RowD} {j len : Nat} (hj : j ≤ len) (h : ∀ i, i < len → p (R i)) (hx : p x) : ∀ i, i < len + 1 → p (ins R x j i) := by
  intro i hi
  unfold ins
  split
  · exact h i (by omega)
  · split
    · exact hx
    · exact h (i - 1) (by omega)

/-- An owned row of rows is a slice of rows. -/
theorem rows_of_own {w : World} {g n cap : Nat} {G : Nat → RowD} (h : w.ownsRow g 34 3 (.slice (some ⟨g, 0, none⟩) n cap) n (gcells G n)) (hc : ∀ i, i < n → CfgAt w (G i)) : RowsAt w (some ⟨g, 0, none⟩) n G := by
  refine ⟨fun _ => ⟨g, 0, rfl, fun i hi => ?_⟩, hc⟩
  have cell : ∀ t v, t < 3 → (rowCells (G i))[t]? = some v → w.cell? ⟨g, i * 3 + t, none⟩ = some v := by
    intro t v ht hv
    have := h.cells (g := g) rfl (i * 3 + t) v (by rw [gcells_at G ht n i hi]; exact hv)
    rwa [Addr.add_lit, Nat.zero_add] at this
  have z0 := cell 0 _ (by omega) rfl
  have z1 := cell 1 _ (by omega) rfl
  have z2 := cell 2 _ (by omega) rfl
  simp only [Nat.zero_add, Nat.add_zero] at z0 z1 z2 ⊢
  exact ⟨z0, z1, z2⟩

/-! ### What stands at an id -/
theorem lk_ins_le {R : Nat → RowD} {x : RowD} {j : Nat} (l : List UInt8) : ∀ k, k ≤ j → lk (ins R x j) k l = lk R k l
  | 0, _ => rfl
  | k + 1, h => by
    simp only [lk, upd]
    rw [ins_lt (by omega), lk_ins_le l k (by omega)]

theorem lk_ins_at {R : Nat → RowD} {x : RowD} {j : Nat} : lk (ins R x j) (j + 1) x.id.data.toList = some (x.cfg, x.past) := by
  simp only [lk, upd]
  rw [ins_eq]
  simp

theorem lk_ins_hit {R : Nat → RowD} {x : RowD} {j m : Nat} (hm : j ≤ m) (h : (R m).id.data.toList = x.id.data.toList) : lk (ins R x j) (m + 1 + 1) x.id.data.toList = some ((R m).cfg, (R m).past) := by
  simp only [lk, upd]
  rw [ins_gt hm, h]
  simp

theorem lk_ins_miss {R : Nat → RowD} {x : RowD} {j m : Nat} (hm : j ≤ m) (h : ¬ (R m).id.data.toList = x.id.data.toList) : lk (ins R x j) (m + 1 + 1) x.id.data.toList = lk (ins R x j) (m + 1) x.id.data.toList := by
  show upd (lk (ins R x j) (m + 1)) (ins R x j (m + 1)).id.data.toList _ _ = _
  unfold upd
  rw [ins_gt hm, if_neg (fun e => h e.symm)]

theorem lk_ins_other {R : Nat → RowD} {x : RowD} {j : Nat} {l : List UInt8} (hl : ¬ l = x.id.data.toList) : ∀ d, lk (ins R x j) (j + d + 1) l = lk R (j + d) l
  | 0 => by
    show upd (lk (ins R x j) j) (ins R x j j).id.data.toList _ _ = _
    unfold upd
    rw [ins_eq, if_neg hl]
    exact lk_ins_le l j (Nat.le_refl _)
  | d + 1 => by
    show upd (lk (ins R x j) (j + d + 1)) (ins R x j (j + d + 1)).id.data.toList _ l = upd (lk R (j + d)) (R (j + d)).id.data.toList _ l
    rw [ins_gt (by omega)]
    have e : ins R x j (j + (d + 1)) = R (j + d) := ins_gt (i := j + d) (by omega)
    unfold upd
    rw [lk_ins_other hl d, e]
    rfl

theorem lk_ins {R : Nat → RowD} {x : RowD} {j len : Nat} (hj : j ≤ len) {l : List UInt8} (hl : ¬ l = x.id.data.toList) : lk (ins R x j) (len + 1) l = lk R len l := by
  have := lk_ins_other (R := R) (j := j) hl (len - j)
  rwa [show j + (len - j) = len by omega] at this

/-- The length of what stands at an id is small. -/
theorem lk_small {R : Nat → RowD} {l : List UInt8} {v : Ans} : ∀ len, Small len R → (∀ i, i < len → (R i).cfg.length = (R i).cl) → lk R len l = some v → v.1.length ≤ 1048576
  | 0, _, _, h => by cases h
  | n + 1, hs, hc, h => by
    simp only [lk, upd] at h
    split at h
    · cases h
      simp only
      rw [hc n (by omega)]
      exact (hs n (by omega)).1
    · exact lk_small n (fun i hi => hs i (by omega)) (fun i hi => hc i (by omega)) h

theorem i34 : (Try.prog.info? 34).map (fun i => (i.zero, i.size, i.bytes)) = some (some (.agg #[.string ByteArray.empty, .slice none 0 0, .int .i64 0]), 3, 48) := by kernel_rfl

end Go.Proofs.Qxb6631263a
