import Derived.WalkKit
namespace Go.Proofs.Qxb6632246a

/-! ### Walks, distances, the diameter: no Go in sight -/
/-- A walk of k steps from i to j. -/
def Wk (G : Nat → Nat → Prop) : Nat → Nat → Nat → Prop
  | 0, i, j => i = j
  | k + 1, i, j => ∃ m, Wk G k i m ∧ G m j

def IsDist (G : Nat → Nat → Prop) (i j d : Nat) : Prop := Wk G d i j ∧ ∀ k, Wk G k i j → d ≤ k

theorem IsDist.unique {G : Nat → Nat → Prop} {i j d e : Nat} (h : IsDist G i j d) (h' : IsDist G i j e) : d = e := by
  have h1 := h.2 e h'.1
  have h2 := h'.2 d h.1
  omega

theorem Wk.trans {G : Nat → Nat → Prop} {a : Nat} : ∀ {b i m j : Nat}, Wk G a i m → Wk G b m j → Wk G (a + b) i j
  | 0, i, m, j, h1, h2 => by
    have e : m = j := h2
    subst e
    exact h1
  | b + 1, i, m, j, h1, h2 => by
    obtain ⟨x, hx, hg⟩ := h2
    exact ⟨x, Wk.trans h1 hx, hg⟩

theorem Wk.first {G : Nat → Nat → Prop} : ∀ {k i j : Nat}, Wk G (k + 1) i j → ∃ m, G i m ∧ Wk G k m j
  | 0, i, j, h => by
    obtain ⟨m, hm, hg⟩ := h
    have e : i = m := hm
    subst e
    exact ⟨j, hg, rfl⟩
  | k + 1, i, j, h => by
    obtain ⟨m, hm, hg⟩ := h
    obtain ⟨x, h1, h2⟩ := Wk.first hm
    exact ⟨x, h1, m, h2, hg⟩

/-- D is the greatest distance among the nodes below n (0 when none). -/
structure IsDiam (G : Nat → Nat → Prop) (n D : Nat) : Prop where
  up : ∀ i j d, i < n → IsDist G i j d → d ≤ D
  at_ : D = 0 ∨ ∃ i j, i < n ∧ IsDist G i j D

theorem IsDiam.unique {G : Nat → Nat → Prop} {n D E : Nat} (h : IsDiam G n D) (h' : IsDiam G n E) : D = E := by
  have a : D ≤ E := by
    rcases h.at_ with h0 | ⟨i, j, hi, hd⟩
    · omega
    · exact h'.up i j D hi hd
  have b : E ≤ D := by
    rcases h'.at_ with h0 | ⟨i, j, hi, hd⟩
    · omega
    · exact h.up i j E hi hd
  omega

/-! ### Lists -/
theorem nodup_le : ∀ (n : Nat) (l : List Nat), l.Nodup → (∀ v ∈ l, v < n) → l.length ≤ n
  | 0, l, _, h => by
    cases l with
    | nil => simp
    | cons a r => have := h a (by simp); omega
  | n + 1, l, hn, h => by
    have h1 := nodup_le n (l.filter (fun v => v ≠ n)) (hn.filter _) (fun v hv => by
      have := List.mem_filter.1 hv
      have h2 := h v this.1
      have h3 : v ≠ n := by simpa using this.2
      omega)
    have h2 : l.length ≤ (l.filter (fun v => v ≠ n)).length + 1 := by
      clear h1 h
      induction l with
      | nil => simp
      | cons a r ih =>
        have hr := (List.nodup_cons.1 hn).2
        by_cases e : a = n
        · subst e
          have hna : a ∉ r := (List.nodup_cons.1 hn).1
          have : r.filter (fun v => v ≠ a) = r := List.filter_eq_self.2 (fun v hv => by
            have : v ≠ a := fun e => hna (e ▸ hv)
            simpa using this)
          have e2 : (a :: r).filter (fun v => v ≠ a) = r.filter (fun v => v ≠ a) := by simp
          rw [e2, this]
          simp
        · have h3 := ih hr
          simp [e]
          simpa using h3
    omega

/-! ### The breadth-first search from s, as facts on its queue q and its hops h -/
def upd (h : Nat → Int) (v : Nat) (x : Int) : Nat → Int := fun t => if t = v then x else h t
theorem upd_same (h : Nat → Int) (v : Nat) (x : Int) : upd h v x v = x := by simp [upd]
theorem upd_other {h : Nat → Int} {v t : Nat} {x : Int} (e : t ≠ v) : upd h v x t = h t := by simp [upd, e]

/-- All that holds of q and h, but for which nodes have been served. -/
structure Bfs (G : Nat → Nat → Prop) (n s : Nat) (q : List Nat) (h : Nat → Int) : Prop where
  src : s ∈ q
  src0 : h s = 0
  nodup : q.Nodup
  bound : ∀ v ∈ q, v < n
  vis : ∀ v, v < n → (0 ≤ h v ↔ v ∈ q)
  walk : ∀ v ∈ q, Wk G (h v).toNat s v
  mono : ∀ i j, i ≤ j → j < q.length → h (q.getD i 0) ≤ h (q.getD j 0)
  idx : ∀ i, i < q.length → h (q.getD i 0) ≤ i

theorem getD_mem {q : List Nat} {i : Nat} (h : i < q.length) : q.getD i 0 ∈ q := by
  have : q.getD i 0 = q[i] := by simp [h]
  rw [this]
  exact List.getElem_mem h

theorem Bfs.len {G : Nat → Nat → Prop} {n s : Nat} {q : List Nat} {h : Nat → Int} (H : Bfs G n s q h) : q.length ≤ n := nodup_le n q H.nodup H.bound

theorem Bfs.pos {G : Nat → Nat → Prop} {n s : Nat} {q : List Nat} {h : Nat → Int} (H : Bfs G n s q h) {v : Nat} (hv : v ∈ q) : 0 ≤ h v := (H.vis v (H.bound v hv)).2 hv

theorem Bfs.start (G : Nat → Nat → Prop) {n s : Nat} (hs : s < n) : Bfs G n s [s] (upd (fun _ => -1) s 0) := by
  refine ⟨by simp, upd_same _ _ _, by simp, fun v hv => ?_, fun v hv => ?_, fun v hv => ?_, fun i j hij hj => ?_, fun i hi => ?_⟩
  · simp at hv; subst hv; exact hs
  · by_cases e : v = s
    · subst e; simp [upd]
    · simp [upd, e]
  · simp at hv; subst hv; rw [upd_same]; rfl
  · simp at hj; subst hj
    obtain rfl : i = 0 := by omega
    exact Int.le_refl _
  · simp at hi; subst hi
    simp [upd]

/-- No node of q is further than one step behind u. -/
def Near (q : List Nat) (h : Nat → Int) (u : Nat) : Prop := ∀ v ∈ q, h v ≤ h u + 1
/-- The first p of q have been served. -/
def Served (G : Nat → Nat → Prop) (q : List Nat) (h : Nat → Int) (p : Nat) : Prop := ∀ i, i < p → ∀ v, G (q.getD i 0) v → v ∈ q ∧ h v ≤ h (q.getD i 0) + 1

theorem getD_append_lt {q : List Nat} {v i : Nat} (h : i < q.length) : (q ++ [v]).getD i 0 = q.getD i 0 := by
  simp [List.getD, List.getElem?_append_left h]
theorem getD_append_eq {q : List Nat} {v : Nat} : (q ++ [v]).getD q.length 0 = v := by
  simp [List.getD]

/-- A new node is met. -/
theorem Bfs.push {G : Nat → Nat → Prop} {n s : Nat} {q : List Nat} {h : Nat → Int} (H : Bfs G n s q h) {p u v : Nat} (hp : p < q.length) (hu : q.getD p 0 = u) (hN : Near q h u) (hg : G u v) (hv : v < n) (hnew : h v < 0) :
    Bfs G n s (q ++ [v]) (upd h v (h u + 1)) := by
  have hvq : v ∉ q := fun hm => by have := H.pos hm; omega
  have huq : u ∈ q := hu ▸ getD_mem hp
  have hu0 := H.pos huq
  have old : ∀ x ∈ q, upd h v (h u + 1) x = h x := fun x hx => upd_other (fun e => hvq (e ▸ hx))
  refine ⟨by simp [H.src], ?_, ?_, ?_, ?_, ?_, ?_, ?_⟩
  · rw [old s H.src]; exact H.src0
  · rw [List.nodup_append]
    exact ⟨H.nodup, by simp, fun a ha b hb => by simp at hb; subst hb; exact fun e => hvq (e ▸ ha)⟩
  · intro x hx
    rcases List.mem_append.1 hx with hx | hx
    · exact H.bound x hx
    · simp at hx; subst hx; exact hv
  · intro x hx
    by_cases e : x = v
    · subst e; rw [upd_same]; simp; omega
    · rw [upd_other e, H.vis x hx]; simp [e]
  · intro x hx
    rcases List.mem_append.1 hx with hx | hx
    · rw [old x hx]; exact H.walk x hx
    · simp at hx; subst hx
      rw [upd_same]
      have : (h u + 1).toNat = (h u).toNat + 1 := by omega
      rw [this]
      exact ⟨u, H.walk u huq, hg⟩
  · intro i j hij hj
    simp at hj
    by_cases ej : j = q.length
    · subst ej
      rw [getD_append_eq, upd_same]
      by_cases ei : i = q.length
      · subst ei; rw [getD_append_eq, upd_same]; exact Int.le_refl _
      · have hi : i < q.length := by omega
        rw [getD_append_lt hi, old _ (getD_mem hi)]
        exact hN _ (getD_mem hi)
    · have hj' : j < q.length := by omega
      have hi : i < q.length := by omega
      rw [getD_append_lt hi, getD_append_lt hj', old _ (getD_mem hi), old _ (getD_mem hj')]
      exact H.mono i j hij hj'
  · intro i hi
    simp at hi
    by_cases ei : i = q.length
    · subst ei
      rw [getD_append_eq, upd_same]
      have := H.idx p hp
      rw [hu] at this
      omega
    · have hi' : i < q.length := by omega
      rw [getD_append_lt hi', old _ (getD_mem hi')]
      exact H.idx i hi'

theorem Near.push {q : List Nat} {h : Nat → Int} {u v : Nat} (hN : Near q h u) (hu : u ∈ q) (hv : v ∉ q) : Near (q ++ [v]) (upd h v (h u + 1)) u := by
  have eu : u ≠ v := fun e => hv (e ▸ hu)
  intro x hx
  rw [upd_other eu]
  rcases List.mem_append.1 hx with hx | hx
  · have ex : x ≠ v := fun e => hv (e ▸ hx)
    rw [upd_other ex]; exact hN x hx
  · simp at hx; subst hx; rw [upd_same]; exact Int.le_refl _

theorem Served.push {G : Nat → Nat → Prop} {q : List Nat} {h : Nat → Int} {p v : Nat} {x : Int} (hS : Served G q h p) (hp : p ≤ q.length) (hv : v ∉ q) : Served G (q ++ [v]) (upd h v x) p := by
  intro i hi y hy
  have hi' : i < q.length := by omega
  rw [getD_append_lt hi'] at hy ⊢
  obtain ⟨h1, h2⟩ := hS i hi y hy
  refine ⟨by simp [h1], ?_⟩
  have e1 : y ≠ v := fun e => hv (e ▸ h1)
  have e2 : q.getD i 0 ≠ v := fun e => hv (e ▸ getD_mem hi')
  rw [upd_other e1, upd_other e2]
  exact h2

/-- One node more has been served. -/
theorem Served.next {G : Nat → Nat → Prop} {q : List Nat} {h : Nat → Int} {p : Nat} (hS : Served G q h p) (hN : ∀ v, G (q.getD p 0) v → v ∈ q ∧ h v ≤ h (q.getD p 0) + 1) : Served G q h (p + 1) := by
  intro i hi v hv
  by_cases e : i = p
  · subst e; exact hN v hv
  · exact hS i (by omega) v hv

theorem Bfs.near {G : Nat → Nat → Prop} {n s : Nat} {q : List Nat} {h : Nat → Int} (H : Bfs G n s q h) {p : Nat} (hN : Near q h (q.getD p 0)) (hp : p + 1 < q.length) : Near q h (q.getD (p + 1) 0) := by
  intro v hv
  have h1 := hN v hv
  have h2 := H.mono p (p + 1) (by omega) hp
  omega

/-- All have been served: the hops are the distances. -/
theorem Bfs.reach {G : Nat → Nat → Prop} {n s : Nat} {q : List Nat} {h : Nat → Int} (H : Bfs G n s q h) (hS : Served G q h q.length) : ∀ k v, Wk G k s v → v ∈ q ∧ h v ≤ k
  | 0, v, hw => by
    have e : s = v := hw
    subst e
    exact ⟨H.src, by rw [H.src0]; exact Int.le_refl _⟩
  | k + 1, v, hw => by
    obtain ⟨m, hm, hg⟩ := hw
    obtain ⟨h1, h2⟩ := H.reach hS k m hm
    obtain ⟨i, hi, e⟩ := List.getElem_of_mem h1
    have e' : q.getD i 0 = m := by simp [hi, e]
    obtain ⟨h3, h4⟩ := hS i hi v (e' ▸ hg)
    rw [e'] at h4
    exact ⟨h3, by omega⟩

theorem Bfs.dist {G : Nat → Nat → Prop} {n s : Nat} {q : List Nat} {h : Nat → Int} (H : Bfs G n s q h) (hS : Served G q h q.length) {v : Nat} (hv : v ∈ q) : IsDist G s v (h v).toNat :=
  ⟨H.walk v hv, fun k hk => by have := (H.reach hS k v hk).2; omega⟩

/-- The greatest distance from the nodes below s, as 'longest' holds it; and of the search from s what it has met. -/
structure Long (G : Nat → Nat → Prop) (s : Nat) (q : List Nat) (h : Nat → Int) (lg : Int) : Prop where
  nn : 0 ≤ lg
  up : ∀ i j d, i < s → IsDist G i j d → (d : Int) ≤ lg
  at_ : lg = 0 ∨ (∃ i j, i < s ∧ IsDist G i j lg.toNat) ∨ ∃ v ∈ q, h v = lg
  q : ∀ v ∈ q, h v ≤ lg

theorem Long.zero (G : Nat → Nat → Prop) (h : Nat → Int) : Long G 0 [] h 0 := ⟨Int.le_refl _, fun i j d hi => by omega, Or.inl rfl, fun v hv => by cases hv⟩

theorem Long.enter {G : Nat → Nat → Prop} {s : Nat} {h : Nat → Int} {lg : Int} (H : Long G s [] h lg) : Long G s [s] (upd (fun _ => -1) s 0) lg := by
  refine ⟨H.nn, H.up, ?_, fun v hv => ?_⟩
  · rcases H.at_ with h0 | h0 | ⟨v, hv, _⟩
    · exact Or.inl h0
    · exact Or.inr (Or.inl h0)
    · cases hv
  · simp at hv; subst hv; rw [upd_same]; exact H.nn

theorem Long.push {G : Nat → Nat → Prop} {s : Nat} {q : List Nat} {h : Nat → Int} {lg x : Int} (H : Long G s q h lg) {v : Nat} (hv : v ∉ q) : Long G s (q ++ [v]) (upd h v x) (max lg x) := by
  have old : ∀ y ∈ q, upd h v x y = h y := fun y hy => upd_other (fun e => hv (e ▸ hy))
  have hn := H.nn
  refine ⟨by omega, fun i j d hi hd => by have := H.up i j d hi hd; omega, ?_, fun y hy => ?_⟩
  · by_cases e : lg ≤ x
    · refine Or.inr (Or.inr ⟨v, by simp, ?_⟩)
      rw [upd_same]; omega
    · have e' : max lg x = lg := by omega
      rw [e']
      rcases H.at_ with h0 | h0 | ⟨y, hy, h1⟩
      · exact Or.inl h0
      · exact Or.inr (Or.inl h0)
      · exact Or.inr (Or.inr ⟨y, by simp [hy], by rw [old y hy]; exact h1⟩)
  · rcases List.mem_append.1 hy with hy | hy
    · rw [old y hy]; have := H.q y hy; omega
    · simp at hy; subst hy; rw [upd_same]; omega

theorem Long.leave {G : Nat → Nat → Prop} {n s : Nat} {q : List Nat} {h : Nat → Int} {lg : Int} (H : Long G s q h lg) (B : Bfs G n s q h) (hS : Served G q h q.length) (h' : Nat → Int) : Long G (s + 1) [] h' lg := by
  refine ⟨H.nn, fun i j d hi hd => ?_, ?_, fun v hv => by cases hv⟩
  · by_cases e : i = s
    · subst e
      obtain ⟨h1, h2⟩ := B.reach hS d j hd.1
      have h3 := (B.dist hS h1).unique hd
      have := H.q j h1
      have := B.pos h1
      omega
    · exact H.up i j d (by omega) hd
  · rcases H.at_ with h0 | ⟨i, j, hi, hd⟩ | ⟨v, hv, h1⟩
    · exact Or.inl h0
    · exact Or.inr (Or.inl ⟨i, j, by omega, hd⟩)
    · exact Or.inr (Or.inl ⟨s, v, by omega, h1 ▸ B.dist hS hv⟩)

theorem Long.diam {G : Nat → Nat → Prop} {n : Nat} {h : Nat → Int} {lg : Int} (H : Long G n [] h lg) : IsDiam G n lg.toNat := by
  have hn := H.nn
  refine ⟨fun i j d hi hd => by have := H.up i j d hi hd; omega, ?_⟩
  rcases H.at_ with h0 | ⟨i, j, hi, hd⟩ | ⟨v, hv, _⟩
  · exact Or.inl (by omega)
  · exact Or.inr ⟨i, j, hi, hd⟩
  · cases hv

end Go.Proofs.Qxb6632246a
