import Derived.Test.Qxb6632246aLawA
import Derived.Test.Qxb6632246aJoinPlain
import Derived.Deep.DeepCutAuto
namespace Go.Proofs.Qxb6632246a
open Go.RowKit

/-- The bits of 1.0. -/
def one64 : Nat := 4607182418800017408
theorem posB_one : posB one64 = true := by decide +kernel

/-! ### The joined network's rows -/
/-- Node y is one of the given network's. -/
def isN (nb n y : Nat) : Bool := decide (nb ≤ y ∧ y < nb + n)
def lenJ (R : Nat → RowG) (nb n y : Nat) : Nat := if isN nb n y = true then (R (y - nb)).rl else 1
def toJ (R : Nat → RowG) (nb n y : Nat) : Nat → Int := fun c => if isN nb n y = true then wrap64 ((R (y - nb)).to c + (nb : Int)) else (y : Int) + 1
def pbJ (R : Nat → RowG) (nb n y : Nat) : Nat → Nat := fun c => if isN nb n y = true then (R (y - nb)).pb c else one64
/-- The rows once those of D are laid. -/
def rowJ (R : Nat → RowG) (nb n : Nat) (D : Nat → Bool) (B : Nat → Nat) (y : Nat) : RowG :=
  ⟨if D y = true then some ⟨B y, 0, none⟩ else none, B y, 0, if D y = true then lenJ R nb n y else 0, if D y = true then lenJ R nb n y else 0, toJ R nb n y, pbJ R nb n y⟩
def outJ (R : Nat → RowG) (nb n : Nat) (D : Nat → Bool) (B : Nat → Nat) : Nat → Value := fun y => .slice (rowJ R nb n D B y).ra (rowJ R nb n D B y).rl (rowJ R nb n D B y).rc

theorem isN_node {nb n i : Nat} (h : i < n) : isN nb n (nb + i) = true := by simp [isN]; omega
theorem lenJ_node {R : Nat → RowG} {nb n i : Nat} (h : i < n) : lenJ R nb n (nb + i) = (R i).rl := by rw [lenJ, if_pos (isN_node h), Nat.add_sub_cancel_left]
theorem toJ_node {R : Nat → RowG} {nb n i : Nat} (h : i < n) : toJ R nb n (nb + i) = fun c => wrap64 ((R i).to c + (nb : Int)) := by
  funext c; rw [toJ, if_pos (isN_node h), Nat.add_sub_cancel_left]
theorem pbJ_node {R : Nat → RowG} {nb n i : Nat} (h : i < n) : pbJ R nb n (nb + i) = (R i).pb := by
  funext c; rw [pbJ, if_pos (isN_node h), Nat.add_sub_cancel_left]
theorem lenJ_path {R : Nat → RowG} {nb n y : Nat} (h : isN nb n y = false) : lenJ R nb n y = 1 := by rw [lenJ, h]; rfl
theorem toJ_path {R : Nat → RowG} {nb n y : Nat} (h : isN nb n y = false) : toJ R nb n y = fun _ => (y : Int) + 1 := by funext c; rw [toJ, h]; rfl
theorem pbJ_path {R : Nat → RowG} {nb n y : Nat} (h : isN nb n y = false) : pbJ R nb n y = fun _ => one64 := by funext c; rw [pbJ, h]; rfl

/-- While the joined network is made: block w.heap.size holds its names, the next one its rows. -/
structure JS (w wr : World) (R : Nat → RowG) (nb n total : Nat) (D : Nat → Bool) (B : Nat → Nat) : Prop where
  nm : ∃ F : Nat → ByteArray, wr.rowIs w.heap.size 9 total (fun i => .string (F i))
  out : wr.rowIs (w.heap.size + 1) 34 total (outJ R nb n D B)
  rows : ∀ y, y < total → D y = true → wr.rowIs (B y) 38 (lenJ R nb n y * 2) (arcFn (toJ R nb n y) (pbJ R nb n y)) ∧ w.heap.size + 1 < B y
  b : Below w.heap.size w wr

theorem JS.congr {w wr : World} {R : Nat → RowG} {nb n total : Nat} {D D' : Nat → Bool} {B : Nat → Nat} (h : JS w wr R nb n total D B) (e : ∀ y, y < total → D y = D' y) : JS w wr R nb n total D' B := by
  refine ⟨h.nm, h.out.congr (fun y hy => ?_), fun y hy hd => h.rows y hy (by rw [e y hy]; exact hd), h.b⟩
  simp only [outJ, rowJ]
  rw [e y hy]

theorem js_start (w : World) (R : Nat → RowG) (nb n total : Nat) (B : Nat → Nat) :
    JS w ((w.alloc (.cells (madeCells #[.string ByteArray.empty] total) 9)).alloc (.cells (madeCells #[.slice none 0 0] total) 34)) R nb n total (fun _ => false) B := by
  have b1 := World.rowIs_made w (.string ByteArray.empty) total 9
  have b2 := World.rowIs_made (w.alloc (.cells (madeCells #[.string ByteArray.empty] total) 9)) (.slice none 0 0) total 34
  simp only [World.size_alloc] at b2
  exact ⟨⟨fun _ => ByteArray.empty, b1.alloc _⟩, b2.congr (fun y hy => by simp [outJ, rowJ]), fun y hy hd => by simp at hd, ((Below.refl _ _).alloc (Nat.le_refl _) _).alloc (by simp) _⟩

theorem JS.name {w wr : World} {R : Nat → RowG} {nb n total : Nat} {D : Nat → Bool} {B : Nat → Nat} (h : JS w wr R nb n total D B) (y : Nat) (s : ByteArray) : JS w (wr.setCell ⟨w.heap.size, y, none⟩ (.string s)) R nb n total D B := by
  obtain ⟨F, hF⟩ := h.nm
  refine ⟨⟨fun i => if i = y then s else F i, (hF.set y _).congr (fun i hi => ?_)⟩, h.out.setOther (by simp) _, fun z hz hd => ?_, h.b.setCell (by simp) _⟩
  · by_cases e : i = y
    · simp [e]
    · simp [e]
  · obtain ⟨h1, h2⟩ := h.rows z hz hd
    exact ⟨h1.setOther (by simp; omega) _, h2⟩

/-- A new row lies in block lb; its slice is stored. -/
theorem JS.row {w wr w2 : World} {R : Nat → RowG} {nb n total y lb : Nat} {D : Nat → Bool} {B : Nat → Nat} (h : JS w wr R nb n total D B) (hlb : wr.heap.size ≤ lb) (hb : Below wr.heap.size wr w2)
    (hr : w2.rowIs lb 38 (lenJ R nb n y * 2) (arcFn (toJ R nb n y) (pbJ R nb n y))) :
    JS w (w2.setCell ⟨w.heap.size + 1, y, none⟩ (.slice (some ⟨lb, 0, none⟩) (lenJ R nb n y) (lenJ R nb n y))) R nb n total (fun z => if z = y then true else D z) (fun z => if z = y then lb else B z) := by
  obtain ⟨F, hF⟩ := h.nm
  have hob := h.out.lt
  have hnb := hF.lt
  have ho := h.out.of_block (hb.block _ hob)
  have hF2 := hF.of_block (hb.block _ hnb)
  refine ⟨⟨F, hF2.setOther (by simp) _⟩, (ho.set y _).congr (fun z hz => ?_), fun z hz hd => ?_, (h.b.trans (hb.mono (by omega))).setCell (by simp) _⟩
  · simp only [outJ, rowJ]
    by_cases e : z = y
    · subst e; simp
    · simp [e]
  · by_cases e : z = y
    · subst e
      rw [if_pos rfl]
      exact ⟨hr.setOther (by simp; omega) _, by omega⟩
    · rw [if_neg e] at hd ⊢
      obtain ⟨h1, h2⟩ := h.rows z hz hd
      exact ⟨(h1.of_block (hb.block _ h1.lt)).setOther (by simp; omega) _, h2⟩

theorem JS.grid {w wr : World} {R : Nat → RowG} {nb n total : Nat} {D : Nat → Bool} {B : Nat → Nat} (h : JS w wr R nb n total D B) : GridAt wr (some ⟨w.heap.size + 1, 0, none⟩) (w.heap.size + 1) 0 total (rowJ R nb n D B) := by
  refine ⟨Or.inr rfl, fun i hi => ?_, fun i hi => ?_⟩
  · rw [Nat.zero_add]
    exact h.out.cell hi
  · by_cases hd : D i = true
    · obtain ⟨h1, _⟩ := h.rows i hi hd
      refine ⟨Or.inr (by simp [rowJ, hd]), fun hn => by simp [rowJ, hd] at hn, fun c hc => ?_⟩
      simp only [rowJ, hd, if_true, Nat.zero_add] at hc ⊢
      have q0 := h1.cell (i := c * 2) (by omega)
      have q1 := h1.cell (i := c * 2 + 1) (by omega)
      simp only [arcFn] at q0 q1
      rw [if_pos (by omega), show c * 2 / 2 = c from by omega] at q0
      rw [if_neg (by omega), show (c * 2 + 1) / 2 = c from by omega] at q1
      exact ⟨q0, q1⟩
    · exact ⟨Or.inl (by simp [rowJ, hd]), fun _ => by simp [rowJ, hd], fun c hc => by simp [rowJ, hd] at hc⟩

/-! ### Its edges -/
/-- The given network's nodes from nb on, the path's from pb on. -/
def Base (n m nb pb : Nat) : Prop := (nb = 0 ∧ pb = n) ∨ (nb = m + 1 ∧ pb = 0)
def allJ (n m nb pb : Nat) : Nat → Bool := fun y => decide ((nb ≤ y ∧ y < nb + n) ∨ (pb ≤ y ∧ y < pb + m))

theorem wrap_small {x : Int} (h0 : 0 ≤ x) (h1 : x ≤ 1048576) : wrap64 x = x := by unfold wrap64; omega

theorem edge_node {R : Nat → RowG} {n m nb pb al i : Nat} {B : Nat → Nat} (hd : Dom n al R) (hn : n ≤ 256) (hm : m ≤ 256) (hb : Base n m nb pb) (hi : i < n) (x : Nat) :
    Edge (rowJ R nb n (allJ n m nb pb) B) (nb + i) x ↔ ∃ v, x = nb + v ∧ Edge R i v := by
  have hD : allJ n m nb pb (nb + i) = true := by simp [allJ]; omega
  have hnb : nb ≤ 257 := by rcases hb with h | h <;> omega
  simp only [Edge, rowJ, hD, if_true, lenJ_node hi, toJ_node hi, pbJ_node hi]
  constructor
  · rintro ⟨c, hc, hp, ht⟩
    obtain ⟨h0, h1⟩ := hd.2 i hi c hc hp
    rw [wrap_small (by omega) (by omega)] at ht
    exact ⟨((R i).to c).toNat, by omega, c, hc, hp, by omega⟩
  · rintro ⟨v, rfl, c, hc, hp, ht⟩
    obtain ⟨h0, h1⟩ := hd.2 i hi c hc hp
    exact ⟨c, hc, hp, by rw [wrap_small (by omega) (by omega)]; omega⟩

theorem edge_path {R : Nat → RowG} {n m nb pb t : Nat} {B : Nat → Nat} (hb : Base n m nb pb) (ht : t < m) (x : Nat) :
    Edge (rowJ R nb n (allJ n m nb pb) B) (pb + t) x ↔ x = pb + t + 1 := by
  have hD : allJ n m nb pb (pb + t) = true := by simp [allJ]; omega
  have hN : isN nb n (pb + t) = false := by
    simp [isN]
    rcases hb with h | h <;> omega
  simp only [Edge, rowJ, hD, if_true, lenJ_path hN, toJ_path hN, pbJ_path hN]
  constructor
  · rintro ⟨c, _, _, h⟩
    omega
  · rintro rfl
    exact ⟨0, by omega, posB_one, by omega⟩

theorem joined_of {R : Nat → RowG} {n m nb pb al : Nat} {B : Nat → Nat} (hd : Dom n al R) (hn : n ≤ 256) (hm : m ≤ 256) (hb : Base n m nb pb) :
    Joined (Edge R) (Edge (rowJ R nb n (allJ n m nb pb) B)) n m nb pb := by
  refine ⟨?_, fun i x hi => edge_node hd hn hm hb hi x, fun t x ht => edge_path hb ht x, ?_, ?_, ?_, ?_⟩
  · rintro i v hi ⟨c, hc, hp, ht⟩
    have := hd.2 i hi c hc hp
    omega
  · rintro x ⟨c, hc, _⟩
    have hD : allJ n m nb pb (pb + m) = false := by
      simp [allJ]
      rcases hb with h | h <;> omega
    simp [rowJ, hD] at hc
  · intro y hy
    rcases hb with ⟨h1, h2⟩ | ⟨h1, h2⟩
    · by_cases e : y < n
      · exact Or.inl ⟨y, e, by omega⟩
      · exact Or.inr ⟨y - n, by omega, by omega⟩
    · by_cases e : y ≤ m
      · exact Or.inr ⟨y, e, by omega⟩
      · exact Or.inl ⟨y - (m + 1), by omega, by omega⟩
  · rcases hb with h | h <;> omega
  · rcases hb with h | h <;> omega

theorem domJ {R : Nat → RowG} {n m nb pb al : Nat} {B : Nat → Nat} (hd : Dom n al R) (hn : n ≤ 256) (hm : m ≤ 256) (hb : Base n m nb pb) :
    ∀ y, y < n + m + 1 → ∀ c, c < (rowJ R nb n (allJ n m nb pb) B y).rl → posB ((rowJ R nb n (allJ n m nb pb) B y).pb c) = true → 0 ≤ (rowJ R nb n (allJ n m nb pb) B y).to c ∧ (rowJ R nb n (allJ n m nb pb) B y).to c < ((n + m + 1 : Nat) : Int) := by
  intro y hy c hc hp
  have hj := joined_of (B := B) hd hn hm hb
  rcases hj.cover y hy with ⟨i, hi, rfl⟩ | ⟨t, ht, rfl⟩
  · have hD : allJ n m nb pb (nb + i) = true := by simp [allJ]; omega
    simp only [rowJ, hD, if_true, lenJ_node hi, toJ_node hi, pbJ_node hi] at hc hp ⊢
    obtain ⟨h0, h1⟩ := hd.2 i hi c hc hp
    have hnb : nb + n ≤ n + m + 1 := hj.fit1
    rw [wrap_small (by omega) (by omega)]
    omega
  · by_cases e : t < m
    · have hN : isN nb n (pb + t) = false := by
        simp [isN]
        rcases hb with h | h <;> omega
      simp only [rowJ, toJ_path hN]
      have := hj.fit2
      omega
    · obtain rfl : t = m := by omega
      have hD : allJ n t nb pb (pb + t) = false := by
        simp [allJ]
        rcases hb with h | h <;> omega
      simp [rowJ, hD] at hc

theorem smallJ {R : Nat → RowG} {n m nb pb al : Nat} {B : Nat → Nat} (hal : n ≤ al) (hs : ∀ i, i < al → (R i).rl ≤ 1048576) (y : Nat) : (rowJ R nb n (allJ n m nb pb) B y).rl ≤ 1048576 := by
  simp only [rowJ, lenJ]
  split
  · split
    · rename_i h
      simp [isN] at h
      exact hs _ (by omega)
    · omega
  · omega

end Go.Proofs.Qxb6632246a
