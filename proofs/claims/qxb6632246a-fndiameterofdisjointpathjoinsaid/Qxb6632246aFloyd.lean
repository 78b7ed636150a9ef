import Derived.Test.Qxb6632246aGraph
namespace Go.Proofs.Qxb6632246a

/-! ### Floyd and Warshall: no Go in sight -/
/-- There is a walk from i to j of at most l steps whose inner nodes lie below k (told step by step in k). -/
def Le (G : Nat → Nat → Prop) : Nat → Nat → Nat → Nat → Prop
  | 0, i, j, l => i = j ∨ (G i j ∧ 1 ≤ l)
  | k + 1, i, j, l => Le G k i j l ∨ ∃ a b, a + b ≤ l ∧ Le G k i k a ∧ Le G k k j b

theorem Le.mono {G : Nat → Nat → Prop} : ∀ {k i j l l' : Nat}, Le G k i j l → l ≤ l' → Le G k i j l'
  | 0, i, j, l, l', h, hl => by
    rcases h with h | ⟨h, h'⟩
    · exact Or.inl h
    · exact Or.inr ⟨h, by omega⟩
  | k + 1, i, j, l, l', h, hl => by
    rcases h with h | ⟨a, b, hab, h1, h2⟩
    · exact Or.inl (Le.mono h hl)
    · exact Or.inr ⟨a, b, by omega, h1, h2⟩

theorem Le.lift {G : Nat → Nat → Prop} {i j l : Nat} (h : Le G 0 i j l) : ∀ k, Le G k i j l
  | 0 => h
  | k + 1 => Or.inl (Le.lift h k)

theorem Le.sound {G : Nat → Nat → Prop} : ∀ {k i j l : Nat}, Le G k i j l → ∃ l', l' ≤ l ∧ Wk G l' i j
  | 0, i, j, l, h => by
    rcases h with h | ⟨h, hl⟩
    · exact ⟨0, Nat.zero_le _, h⟩
    · exact ⟨1, hl, i, rfl, h⟩
  | k + 1, i, j, l, h => by
    rcases h with h | ⟨a, b, hab, h1, h2⟩
    · exact Le.sound h
    · obtain ⟨a', ha, wa⟩ := Le.sound h1
      obtain ⟨b', hb, wb⟩ := Le.sound h2
      exact ⟨a' + b', by omega, wa.trans wb⟩

theorem Le.trans {G : Nat → Nat → Prop} : ∀ {k m i j a b : Nat}, m < k → Le G k i m a → Le G k m j b → Le G k i j (a + b)
  | 0, m, _, _, _, _, hm, _, _ => by omega
  | k + 1, m, i, j, a, b, hm, h1, h2 => by
    by_cases e : m = k
    · subst e
      have h1' : Le G m i m a := by
        rcases h1 with h | ⟨x, y, hxy, h, _⟩
        · exact h
        · exact h.mono (by omega)
      have h2' : Le G m m j b := by
        rcases h2 with h | ⟨x, y, hxy, _, h⟩
        · exact h
        · exact h.mono (by omega)
      exact Or.inr ⟨a, b, Nat.le_refl _, h1', h2'⟩
    · have hmk : m < k := by omega
      rcases h1 with h1 | ⟨a1, a2, ha, p1, p2⟩ <;> rcases h2 with h2 | ⟨b1, b2, hb, q1, q2⟩
      · exact Or.inl (Le.trans hmk h1 h2)
      · exact Or.inr ⟨a + b1, b2, by omega, Le.trans hmk h1 q1, q2⟩
      · exact Or.inr ⟨a1, a2 + b, by omega, p1, Le.trans hmk p2 h2⟩
      · exact Or.inr ⟨a1, b2, by omega, p1, q2⟩

theorem Wk.below {G : Nat → Nat → Prop} {n : Nat} (hcl : ∀ m j, m < n → G m j → j < n) : ∀ {k i j : Nat}, i < n → Wk G k i j → j < n
  | 0, i, j, hi, h => by
    have e : i = j := h
    omega
  | k + 1, i, j, hi, h => by
    obtain ⟨m, hm, hg⟩ := h
    exact hcl m j (Wk.below hcl hi hm) hg

theorem Le.complete {G : Nat → Nat → Prop} {n : Nat} (hcl : ∀ m j, m < n → G m j → j < n) : ∀ {l i j : Nat}, i < n → Wk G l i j → Le G n i j l
  | 0, i, j, hi, h => Le.lift (Or.inl h) n
  | l + 1, i, j, hi, h => by
    obtain ⟨m, hm, hg⟩ := h
    exact Le.trans (Wk.below hcl hi hm) (Le.complete hcl hi hm) (Le.lift (Or.inr ⟨hg, Nat.le_refl _⟩) n)

/-- A distance is smaller than the number of nodes. -/
theorem dist_nodes {G : Nat → Nat → Prop} {n : Nat} (hcl : ∀ m j, m < n → G m j → j < n) {i : Nat} (hi : i < n) : ∀ {d j : Nat}, IsDist G i j d → ∃ l : List Nat, l.length = d + 1 ∧ l.Nodup ∧ ∀ v ∈ l, v < n ∧ ∃ k, k ≤ d ∧ IsDist G i v k
  | 0, j, h => ⟨[j], rfl, by simp, fun v hv => by
      simp at hv; subst hv
      exact ⟨Wk.below hcl hi h.1, 0, Nat.le_refl _, h⟩⟩
  | d + 1, j, h => by
    obtain ⟨⟨m, hm, hg⟩, hmin⟩ := h
    have hd : IsDist G i m d := ⟨hm, fun k hk => by have := hmin (k + 1) ⟨m, hk, hg⟩; omega⟩
    obtain ⟨l, hl, hn, hv⟩ := dist_nodes hcl hi hd
    refine ⟨l ++ [j], by simp [hl], ?_, fun v hv' => ?_⟩
    · rw [List.nodup_append]
      refine ⟨hn, by simp, fun a ha b hb => ?_⟩
      simp at hb; subst hb
      intro e
      subst e
      obtain ⟨_, k, hk, hdk⟩ := hv a ha
      have := hmin k hdk.1
      omega
    · rcases List.mem_append.1 hv' with hx | hx
      · obtain ⟨h1, k, hk, h2⟩ := hv v hx
        exact ⟨h1, k, by omega, h2⟩
      · simp at hx; subst hx
        exact ⟨hcl m v (Wk.below hcl hi hm) hg, d + 1, Nat.le_refl _, ⟨m, hm, hg⟩, hmin⟩

theorem dist_lt {G : Nat → Nat → Prop} {n : Nat} (hcl : ∀ m j, m < n → G m j → j < n) {i j d : Nat} (hi : i < n) (h : IsDist G i j d) : d < n := by
  obtain ⟨l, hl, hn, hv⟩ := dist_nodes hcl hi h
  have := nodup_le n l hn (fun v hv' => (hv v hv').1)
  omega

/-! ### The matrix -/
abbrev inf : Int := 1048576

structure Inv (G : Nat → Nat → Prop) (n k : Nat) (d : Nat → Nat → Int) : Prop where
  nn : ∀ i j, i < n → j < n → 0 ≤ d i j ∧ d i j ≤ inf
  le : ∀ i j, i < n → j < n → ∀ l : Nat, (l : Int) < inf → (d i j ≤ l ↔ Le G k i j l)

def fwStep (k : Nat) (d : Nat → Nat → Int) (i j : Nat) : Int := if d i k < inf ∧ d k j < inf ∧ d i k + d k j < d i j then d i k + d k j else d i j

theorem fwStep_le1 (k : Nat) (d : Nat → Nat → Int) (i j : Nat) : fwStep k d i j ≤ d i j := by unfold fwStep; split <;> omega
theorem fwStep_le2 {k : Nat} {d : Nat → Nat → Int} {i j : Nat} (h1 : d i k < inf) (h2 : d k j < inf) : fwStep k d i j ≤ d i k + d k j := by unfold fwStep; split <;> omega

theorem Inv.step {G : Nat → Nat → Prop} {n k : Nat} {d : Nat → Nat → Int} (h : Inv G n k d) (hk : k < n) : Inv G n (k + 1) (fwStep k d) := by
  refine ⟨fun i j hi hj => ?_, fun i j hi hj l hl => ⟨fun hle => ?_, fun hle => ?_⟩⟩
  · have h1 := h.nn i j hi hj
    have h2 := h.nn i k hi hk
    have h3 := h.nn k j hk hj
    unfold fwStep
    split <;> omega
  · unfold fwStep at hle
    split at hle
    · rename_i hc
      have h2 := h.nn i k hi hk
      have h3 := h.nn k j hk hj
      refine Or.inr ⟨(d i k).toNat, (d k j).toNat, by omega, (h.le i k hi hk _ (by omega)).1 (by omega), (h.le k j hk hj _ (by omega)).1 (by omega)⟩
    · exact Or.inl ((h.le i j hi hj l hl).1 hle)
  · rcases hle with hle | ⟨a, b, hab, ha, hb⟩
    · exact Int.le_trans (fwStep_le1 k d i j) ((h.le i j hi hj l hl).2 hle)
    · have h2 := (h.le i k hi hk a (by omega)).2 ha
      have h3 := (h.le k j hk hj b (by omega)).2 hb
      have := fwStep_le2 (k := k) (d := d) (i := i) (j := j) (by omega) (by omega)
      omega

theorem fwStep_col {G : Nat → Nat → Prop} {n k : Nat} {d : Nat → Nat → Int} (h : Inv G n k d) (hk : k < n) {i : Nat} (_hi : i < n) : fwStep k d i k = d i k := by
  have := (h.nn k k hk hk).1
  unfold fwStep
  rw [if_neg (by omega)]
theorem fwStep_row {G : Nat → Nat → Prop} {n k : Nat} {d : Nat → Nat → Int} (h : Inv G n k d) (hk : k < n) {j : Nat} (_hj : j < n) : fwStep k d k j = d k j := by
  have := (h.nn k k hk hk).1
  unfold fwStep
  rw [if_neg (by omega)]

/-- In the midst of phase k: the rows before i0, and of row i0 the columns before j0, have had their step. -/
def mix (k : Nat) (d : Nat → Nat → Int) (i0 j0 : Nat) : Nat → Nat → Int := fun i j => if i < i0 ∨ (i = i0 ∧ j < j0) then fwStep k d i j else d i j

theorem mix_zero (k : Nat) (d : Nat → Nat → Int) (i j : Nat) : mix k d 0 0 i j = d i j := if_neg (by omega)
theorem mix_here (k : Nat) (d : Nat → Nat → Int) (i0 j0 : Nat) : mix k d i0 j0 i0 j0 = d i0 j0 := if_neg (by omega)
theorem mix_col (k : Nat) (d : Nat → Nat → Int) (i0 : Nat) : mix k d i0 0 i0 k = d i0 k := if_neg (by omega)
theorem mix_row {G : Nat → Nat → Prop} {n k : Nat} {d : Nat → Nat → Int} (h : Inv G n k d) (hk : k < n) {i0 j0 j : Nat} (hj : j < n) : mix k d i0 j0 k j = d k j := by
  unfold mix
  split
  · exact fwStep_row h hk hj
  · rfl
theorem mix_set {k : Nat} {d : Nat → Nat → Int} {i0 j0 : Nat} {x : Int} (hx : x = fwStep k d i0 j0) (i j : Nat) : (if i = i0 ∧ j = j0 then x else mix k d i0 j0 i j) = mix k d i0 (j0 + 1) i j := by
  by_cases e : i = i0 ∧ j = j0
  · obtain ⟨rfl, rfl⟩ := e
    rw [if_pos ⟨rfl, rfl⟩, hx]
    exact (if_pos (by omega)).symm
  · rw [if_neg e]
    unfold mix
    by_cases e2 : i < i0 ∨ (i = i0 ∧ j < j0)
    · rw [if_pos e2, if_pos (by omega)]
    · rw [if_neg e2, if_neg (by omega)]
theorem mix_rowEnd {k n : Nat} {d : Nat → Nat → Int} {i0 i j : Nat} (hj : j < n) : mix k d i0 n i j = mix k d (i0 + 1) 0 i j := by
  unfold mix
  by_cases e : i < i0 ∨ (i = i0 ∧ j < n)
  · rw [if_pos e, if_pos (by omega)]
  · rw [if_neg e, if_neg (by omega)]
theorem mix_skip {k : Nat} {d : Nat → Nat → Int} {i0 : Nat} (h : ¬ d i0 k < inf) (i j : Nat) : mix k d i0 0 i j = mix k d (i0 + 1) 0 i j := by
  unfold mix
  by_cases e : i < i0
  · rw [if_pos (Or.inl e), if_pos (Or.inl (by omega))]
  · rw [if_neg (by omega)]
    by_cases e2 : i = i0
    · subst e2
      rw [if_pos (by omega)]
      unfold fwStep
      rw [if_neg (fun hc => h hc.1)]
    · rw [if_neg (by omega)]
theorem mix_end {k n : Nat} {d : Nat → Nat → Int} {i j : Nat} (hi : i < n) : mix k d n 0 i j = fwStep k d i j := if_pos (Or.inl hi)

theorem Inv.congr {G : Nat → Nat → Prop} {n k : Nat} {d e : Nat → Nat → Int} (h : Inv G n k d) (he : ∀ i j, i < n → j < n → e i j = d i j) : Inv G n k e :=
  ⟨fun i j hi hj => by rw [he i j hi hj]; exact h.nn i j hi hj, fun i j hi hj l hl => by rw [he i j hi hj]; exact h.le i j hi hj l hl⟩

/-! ### The greatest finite entry -/
structure Best (n : Nat) (d : Nat → Nat → Int) (t : Nat) (b : Int) : Prop where
  nn : 0 ≤ b
  up : ∀ x, x < t → d (x / n) (x % n) < inf → d (x / n) (x % n) ≤ b
  at_ : b = 0 ∨ ∃ x, x < t ∧ d (x / n) (x % n) < inf ∧ d (x / n) (x % n) = b

theorem Best.zero (n : Nat) (d : Nat → Nat → Int) : Best n d 0 0 := ⟨Int.le_refl _, fun x hx => by omega, Or.inl rfl⟩
theorem Best.take {n : Nat} {d : Nat → Nat → Int} {t : Nat} {b : Int} (h : Best n d t b) (h1 : d (t / n) (t % n) < inf) (h2 : b < d (t / n) (t % n)) : Best n d (t + 1) (d (t / n) (t % n)) := by
  have := h.nn
  refine ⟨by omega, fun x hx hf => ?_, Or.inr ⟨t, by omega, h1, rfl⟩⟩
  by_cases e : x = t
  · subst e; exact Int.le_refl _
  · have := h.up x (by omega) hf; omega
theorem Best.keep {n : Nat} {d : Nat → Nat → Int} {t : Nat} {b : Int} (h : Best n d t b) (h1 : ¬ (d (t / n) (t % n) < inf ∧ b < d (t / n) (t % n))) : Best n d (t + 1) b := by
  refine ⟨h.nn, fun x hx hf => ?_, ?_⟩
  · by_cases e : x = t
    · subst e; omega
    · exact h.up x (by omega) hf
  · rcases h.at_ with h0 | ⟨x, hx, h3⟩
    · exact Or.inl h0
    · exact Or.inr ⟨x, by omega, h3⟩

theorem flat_div {n i j : Nat} (hj : j < n) : (i * n + j) / n = i := by
  rw [Nat.add_comm, Nat.add_mul_div_right _ _ (by omega), Nat.div_eq_of_lt hj, Nat.zero_add]
theorem flat_mod {n i j : Nat} (hj : j < n) : (i * n + j) % n = j := by
  rw [Nat.add_comm, Nat.add_mul_mod_self_right, Nat.mod_eq_of_lt hj]
theorem flat_lt {n i j : Nat} (hi : i < n) (hj : j < n) : i * n + j < n * n := by
  have : i * n + n ≤ n * n := by
    rw [← Nat.succ_mul]
    exact Nat.mul_le_mul_right n hi
  omega
theorem flat_eq {n t i j : Nat} (hj : j < n) : t = i * n + j ↔ t / n = i ∧ t % n = j := by
  constructor
  · rintro rfl
    exact ⟨flat_div hj, flat_mod hj⟩
  · rintro ⟨rfl, rfl⟩
    have := Nat.div_add_mod t n
    rw [Nat.mul_comm] at this
    exact this.symm

theorem best_diam {G : Nat → Nat → Prop} {n : Nat} {d : Nat → Nat → Int} {b : Int} (hcl : ∀ m j, m < n → G m j → j < n) (hn : n ≤ 1048576) (h : Inv G n n d) (hb : Best n d (n * n) b) : IsDiam G n b.toNat := by
  have hinf : inf = 1048576 := rfl
  have exact_ : ∀ i j, i < n → j < n → d i j < inf → IsDist G i j (d i j).toNat := by
    intro i j hi hj hf
    have h0 := h.nn i j hi hj
    obtain ⟨l', hl', hw⟩ := Le.sound ((h.le i j hi hj (d i j).toNat (by omega)).1 (by omega))
    have h1 := (h.le i j hi hj l' (by omega)).2 (Le.complete hcl hi hw)
    obtain rfl : l' = (d i j).toNat := by omega
    refine ⟨hw, fun k hk => ?_⟩
    by_cases hkf : (k : Int) < inf
    · have := (h.le i j hi hj k hkf).2 (Le.complete hcl hi hk); omega
    · omega
  refine ⟨fun i j x hi hx => ?_, ?_⟩
  · have hj := Wk.below hcl hi hx.1
    have hxn := dist_lt hcl hi hx
    have h1 := (h.le i j hi hj x (by omega)).2 (Le.complete hcl hi hx.1)
    have h2 := hb.up (i * n + j) (flat_lt hi hj) (by rw [flat_div hj, flat_mod hj]; omega)
    rw [flat_div hj, flat_mod hj] at h2
    have h3 := (exact_ i j hi hj (by omega)).unique hx
    have h0 := h.nn i j hi hj
    omega
  · rcases hb.at_ with h0 | ⟨x, hx, h1, h2⟩
    · exact Or.inl (by omega)
    · have hn0 : 0 < n := by
        rcases Nat.eq_zero_or_pos n with e | e
        · subst e; omega
        · exact e
      exact Or.inr ⟨x / n, x % n, Nat.div_lt_of_lt_mul hx, h2 ▸ exact_ _ _ (Nat.div_lt_of_lt_mul hx) (Nat.mod_lt _ hn0) h1⟩

end Go.Proofs.Qxb6632246a
