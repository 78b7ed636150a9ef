import Derived.Test.Qxb6632246aGraph
namespace Go.Proofs.Qxb6632246a

/-! ### A graph beside a path of m steps: no Go in sight -/
structure Joined (G GJ : Nat → Nat → Prop) (n m nb pb : Nat) : Prop where
  inn : ∀ i v, i < n → G i v → v < n
  nodes : ∀ i x, i < n → (GJ (nb + i) x ↔ ∃ v, x = nb + v ∧ G i v)
  path : ∀ t x, t < m → (GJ (pb + t) x ↔ x = pb + t + 1)
  last : ∀ x, ¬ GJ (pb + m) x
  cover : ∀ y, y < n + m + 1 → (∃ i, i < n ∧ y = nb + i) ∨ ∃ t, t ≤ m ∧ y = pb + t
  fit1 : nb + n ≤ n + m + 1
  fit2 : pb + m < n + m + 1

theorem wk_in {G : Nat → Nat → Prop} {n : Nat} (hG : ∀ i v, i < n → G i v → v < n) {i : Nat} (hi : i < n) : ∀ {l x : Nat}, Wk G l i x → x < n
  | 0, x, e => by
    have e' : i = x := e
    omega
  | _ + 1, x, ⟨y, hy, hg⟩ => hG y x (wk_in hG hi hy) hg

theorem Joined.wk1 {G GJ : Nat → Nat → Prop} {n m nb pb : Nat} (h : Joined G GJ n m nb pb) {i : Nat} (hi : i < n) : ∀ l x, Wk GJ l (nb + i) x ↔ ∃ v, v < n ∧ x = nb + v ∧ Wk G l i v
  | 0, x => by
    constructor
    · intro e
      have e' : nb + i = x := e
      exact ⟨i, hi, e'.symm, rfl⟩
    · rintro ⟨v, _, hx, e⟩
      have e' : i = v := e
      subst e'
      exact hx.symm
  | l + 1, x => by
    constructor
    · rintro ⟨y, hy, hg⟩
      obtain ⟨v, hv, rfl, hw⟩ := (h.wk1 hi l y).1 hy
      obtain ⟨u, rfl, hu⟩ := (h.nodes v x hv).1 hg
      exact ⟨u, h.inn v u hv hu, rfl, v, hw, hu⟩
    · rintro ⟨v, hv, rfl, u, hw, hu⟩
      have hun : u < n := wk_in h.inn hi hw
      exact ⟨nb + u, (h.wk1 hi l _).2 ⟨u, hun, rfl, hw⟩, (h.nodes u _ hun).2 ⟨v, rfl, hu⟩⟩

theorem Joined.wk2 {G GJ : Nat → Nat → Prop} {n m nb pb : Nat} (h : Joined G GJ n m nb pb) {t : Nat} (ht : t ≤ m) : ∀ l x, Wk GJ l (pb + t) x ↔ x = pb + t + l ∧ t + l ≤ m
  | 0, x => by
    constructor
    · intro e
      have e' : pb + t = x := e
      omega
    · rintro ⟨e, _⟩
      exact e.symm
  | l + 1, x => by
    constructor
    · rintro ⟨y, hy, hg⟩
      obtain ⟨rfl, hl⟩ := (h.wk2 ht l y).1 hy
      rw [Nat.add_assoc] at hg
      by_cases e : t + l < m
      · have := (h.path (t + l) x e).1 hg
        omega
      · have e2 : t + l = m := by omega
        rw [e2] at hg
        exact absurd hg (h.last x)
    · rintro ⟨e, hl⟩
      refine ⟨pb + t + l, (h.wk2 ht l _).2 ⟨rfl, by omega⟩, ?_⟩
      rw [Nat.add_assoc]
      exact (h.path (t + l) x (by omega)).2 (by omega)

theorem Joined.dist1 {G GJ : Nat → Nat → Prop} {n m nb pb : Nat} (h : Joined G GJ n m nb pb) {i x d : Nat} (hi : i < n) (hd : IsDist GJ (nb + i) x d) : ∃ v, IsDist G i v d := by
  obtain ⟨v, hv, rfl, hw⟩ := (h.wk1 hi d x).1 hd.1
  exact ⟨v, hw, fun k hk => hd.2 k ((h.wk1 hi k _).2 ⟨v, hv, rfl, hk⟩)⟩

theorem Joined.diam {G GJ : Nat → Nat → Prop} {n m nb pb D : Nat} (h : Joined G GJ n m nb pb) (hD : IsDiam G n D) : IsDiam GJ (n + m + 1) (max D m) := by
  constructor
  · intro y x d hy hd
    rcases h.cover y hy with ⟨i, hi, rfl⟩ | ⟨t, ht, rfl⟩
    · obtain ⟨v, hv⟩ := h.dist1 hi hd
      have := hD.up i v d hi hv
      omega
    · have := (h.wk2 ht d x).1 hd.1
      omega
  · by_cases hm : m ≤ D
    · rw [Nat.max_eq_left hm]
      rcases hD.at_ with h0 | ⟨i, j, hi, hd⟩
      · exact Or.inl h0
      · refine Or.inr ⟨nb + i, nb + j, by have := h.fit1; omega, ?_, fun k hk => ?_⟩
        · exact (h.wk1 hi D _).2 ⟨j, wk_in h.inn hi hd.1, rfl, hd.1⟩
        · obtain ⟨v, hv, e, hw⟩ := (h.wk1 hi k _).1 hk
          have e' : j = v := by omega
          subst e'
          exact hd.2 k hw
    · rw [Nat.max_eq_right (by omega)]
      refine Or.inr ⟨pb + 0, pb + m, by have := h.fit2; omega, ?_, fun k hk => ?_⟩
      · exact (h.wk2 (Nat.zero_le _) m _).2 (by omega)
      · have := (h.wk2 (Nat.zero_le _) k _).1 hk
        omega

end Go.Proofs.Qxb6632246a
