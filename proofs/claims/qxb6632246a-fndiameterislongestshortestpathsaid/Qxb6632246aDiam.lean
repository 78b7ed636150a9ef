import Derived.Test.Qxb6632246aCopy
namespace Go.Proofs.Qxb6632246a
open Go.RowKit
attribute [local go_sem] run_store_float
attribute [local go_sem] Go.wp_at_zero Go.wp_at_succ

/-- Who hears whom: an arc of probability above 0. -/
def Edge (R : Nat → RowG) (i j : Nat) : Prop := ∃ c, c < (R i).rl ∧ posB ((R i).pb c) = true ∧ (R i).to c = (j : Int)

theorem make39q (n : Nat) (hn : n ≤ 1048576) (w : World) :
    (Instr.makeSlice 39 (.int .i64 0) (.int .i64 (n : Int))).run Try.prog w = .ok (.slice (some ⟨w.heap.size, 0, none⟩) 0 n) (w.alloc (.cells (madeCells #[.int .i64 0] n) 3)) := by
  obtain ⟨i, hi, hzz⟩ := Option.map_eq_some_iff.1 i3
  simp only [Prod.mk.injEq] at hzz
  obtain ⟨hz, hs, hb⟩ := hzz
  have hr := run_make (P := Try.prog) w 39 3 i (.int .i64 0) Try.underlying39 hi hz .i64 .i64 0 n (Int.le_refl _) (by omega) (by rw [hb]; omega) (by omega)
  simp only [Int.toNat_natCast, hs, Value.cells, Nat.mul_one] at hr
  exact hr

def qcells (q : List Nat) : List Value := q.map (fun (v : Nat) => Value.int .i64 (v : Int))
theorem qcells_append (q : List Nat) (v : Nat) : qcells q ++ [Value.int .i64 (v : Int)] = qcells (q ++ [v]) := by simp [qcells]
theorem qcells_length (q : List Nat) : (qcells q).length = q.length := by simp [qcells]

/-- The search's memory: hops in block w.heap.size, the queue in the next. -/
structure Mem (w wr : World) (n : Nat) (q : List Nat) (h : Nat → Int) : Prop where
  hops : wr.rowIs w.heap.size 3 n (fun v => .int .i64 (h v))
  que : wr.ownsRow (w.heap.size + 1) 3 1 (.slice (some ⟨w.heap.size + 1, 0, none⟩) q.length n) q.length (qcells q)
  b : Below w.heap.size w wr

theorem Mem.lt {w wr : World} {n : Nat} {q : List Nat} {h : Nat → Int} (H : Mem w wr n q h) : w.heap.size + 1 < wr.heap.size := (H.que.lt _ rfl).2

theorem Mem.drew {w wr : World} {n : Nat} {q : List Nat} {h : Nat → Int} (H : Mem w wr n q h) : Mem w wr.drew n q h := ⟨H.hops.drew, H.que.drew, H.b.drew⟩
theorem Mem.alloc {w wr : World} {n : Nat} {q : List Nat} {h : Nat → Int} (H : Mem w wr n q h) (o : Obj) : Mem w (wr.alloc o) n q h := ⟨H.hops.alloc o, H.que.alloc o, H.b.alloc H.b.size o⟩
theorem Mem.set {w wr : World} {n : Nat} {q : List Nat} {h : Nat → Int} (H : Mem w wr n q h) (v : Nat) (x : Int) : Mem w (wr.setCell ⟨w.heap.size, v, none⟩ (.int .i64 x)) n q (upd h v x) :=
  ⟨(H.hops.set v _).congr (fun i _ => by by_cases e : i = v <;> simp [upd, e]), ownsRow_setCell_below H.que (by simp) _, H.b.setCell (by simp) _⟩
theorem Mem.congr {w wr : World} {n : Nat} {q : List Nat} {h h' : Nat → Int} (H : Mem w wr n q h) (e : ∀ v, v < n → h v = h' v) : Mem w wr n q h' := ⟨H.hops.congr (fun i hi => by rw [e i hi]), H.que, H.b⟩

theorem Mem.qcell {w wr : World} {n : Nat} {q : List Nat} {h : Nat → Int} (H : Mem w wr n q h) {p : Nat} (hp : p < q.length) : wr.cell? ⟨w.heap.size + 1, p, none⟩ = some (.int .i64 ((q.getD p 0 : Nat) : Int)) := by
  have := H.que.cells (g := w.heap.size + 1) rfl p (.int .i64 ((q.getD p 0 : Nat) : Int)) (by simp [qcells, hp])
  rwa [Addr.add_lit, Nat.zero_add] at this

/-- The queue cut to nothing. -/
theorem own_cut {w : World} {b e n k : Nat} {xs : List Value} (h : w.ownsRow b e 1 (.slice (some ⟨b, 0, none⟩) k n) k xs) : w.ownsRow b e 1 (.slice (some ⟨b, 0, none⟩) 0 n) 0 [] := by
  rcases h.2 with ⟨h1, _⟩ | ⟨g, cap, cur, hv, hg, hh, h1, h2, h3, h4⟩
  · cases h1
  · refine ⟨rfl, Or.inr ⟨g, cap, cur, ?_, hg, hh, Nat.zero_le _, h2, h3, by simp⟩⟩
    simp at hv ⊢
    exact ⟨hv.1, hv.2⟩

theorem Mem.append {w wr w2 : World} {n : Nat} {q : List Nat} {h : Nat → Int} {v : Nat} {o : Obj} (H : Mem w wr n q h) (ho : w2.ownsRow (w.heap.size + 1) 3 1 (.slice (some ⟨w.heap.size + 1, 0, none⟩) (q.length + 1) n) (q.length + 1) (qcells q ++ [.int .i64 (v : Int)]))
    (hg : (wr.alloc o).grownBy w2 (some (w.heap.size + 1))) : Mem w w2 n (q ++ [v]) h := by
  have hlt := H.hops.lt
  refine ⟨(H.hops.alloc o).of_block (hg.block _ (by simp; omega) (by simp)), ?_, (H.b.alloc H.b.size o).grown hg (by simp; omega) (fun k hk => by cases hk; omega)⟩
  rw [qcells_append] at ho
  simpa using ho
theorem Mem.first {w wr w2 : World} {n s : Nat} {q : List Nat} {h : Nat → Int} {o : Obj} (H : Mem w wr n q h) (ho : w2.ownsRow (w.heap.size + 1) 3 1 (.slice (some ⟨w.heap.size + 1, 0, none⟩) (0 + 1) n) (0 + 1) ([] ++ [.int .i64 (s : Int)]))
    (hg : (wr.alloc o).grownBy w2 (some (w.heap.size + 1))) : Mem w w2 n [s] h := by
  have hlt := H.hops.lt
  refine ⟨(H.hops.alloc o).of_block (hg.block _ (by simp; omega) (by simp)), ho, (H.b.alloc H.b.size o).grown hg (by simp; omega) (fun k hk => by cases hk; omega)⟩

theorem mem_start (w : World) (n : Nat) (hn : n ≤ maxLen) : Mem w ((w.alloc (.cells (madeCells #[.int .i64 0] n) 3)).alloc (.cells (madeCells #[.int .i64 0] n) 3)) n [] (fun _ => 0) := by
  refine ⟨(World.rowIs_made w (.int .i64 0) n 3).alloc _, ?_, ((Below.refl _ _).alloc (Nat.le_refl _) _).alloc (by simp) _⟩
  have h := World.ownsRow_made (base := w.heap.size + 1) (e := 3) (size := 1) (w.alloc (.cells (madeCells #[.int .i64 0] n) 3)) (madeCells #[.int .i64 0] n) n (by simp) hn (by simp [madeCells])
  simpa [qcells] using h

theorem one_new {W : World} {B : Nat} {x : Value} {t : TypeId} (h : W.heap.size = B) : ∀ j u, [x][j]? = some u → (W.alloc (.cells #[x] t)).cell? ((⟨B, 0, none⟩ : Addr).add j) = some u := by
  subst h
  exact cell_one_new W x t
theorem one_new_drew {W : World} {B : Nat} {x : Value} {t : TypeId} (h : W.heap.size = B) : ∀ j u, [x][j]? = some u → (W.alloc (.cells #[x] t)).drew.cell? ((⟨B, 0, none⟩ : Addr).add j) = some u := one_new h
theorem grown_drew {W w2 : World} {r : Option Nat} (h : W.drew.grownBy w2 r) : W.grownBy w2 r := ⟨h.os, h.tape, h.output, h.size, h.block⟩
theorem one_cell (k : IntKind) (x : Int) : ∀ u ∈ [Value.int k x], u.oneCell' = true := by
  intro u hu
  simp at hu
  subst hu
  rfl

/-- The arcs of u before number m lead to nodes that have been met. -/
def Part (r : RowG) (q : List Nat) (h : Nat → Int) (u m : Nat) : Prop := ∀ c, c < m → posB (r.pb c) = true → ∀ v : Nat, r.to c = (v : Int) → v ∈ q ∧ h v ≤ h u + 1
theorem Part.zero (r : RowG) (q : List Nat) (h : Nat → Int) (u : Nat) : Part r q h u 0 := fun c hc => by omega
theorem Part.succ {r : RowG} {q : List Nat} {h : Nat → Int} {u m : Nat} (H : Part r q h u m) (h1 : posB (r.pb m) = true → ∀ v : Nat, r.to m = (v : Int) → v ∈ q ∧ h v ≤ h u + 1) : Part r q h u (m + 1) := fun c hc => by
  by_cases e : c = m
  · subst e; exact h1
  · exact H c (by omega)
theorem Part.push {r : RowG} {q : List Nat} {h : Nat → Int} {u m v : Nat} (H : Part r q h u m) (hu : u ∈ q) (hv : v ∉ q) : Part r (q ++ [v]) (upd h v (h u + 1)) u m := by
  intro c hc hp x hx
  obtain ⟨h1, h2⟩ := H c hc hp x hx
  have e1 : x ≠ v := fun e => hv (e ▸ h1)
  have e2 : u ≠ v := fun e => hv (e ▸ hu)
  rw [upd_other e1, upd_other e2]
  exact ⟨by simp [h1], h2⟩

/-- All that holds in the midst of serving u = q[p]. -/
structure Mid (R : Nat → RowG) (n s p u m : Nat) (q : List Nat) (h : Nat → Int) (lg : Int) : Prop where
  bfs : Bfs (Edge R) n s q h
  served : Served (Edge R) q h p
  hp : p < q.length
  hu : q.getD p 0 = u
  near : Near q h u
  long : Long (Edge R) s q h lg
  part : Part (R u) q h u m

theorem Mid.umem {R : Nat → RowG} {n s p u m : Nat} {q : List Nat} {h : Nat → Int} {lg : Int} (H : Mid R n s p u m q h lg) : u ∈ q := H.hu ▸ getD_mem H.hp

theorem Mid.skip {R : Nat → RowG} {n s p u m : Nat} {q : List Nat} {h : Nat → Int} {lg : Int} (H : Mid R n s p u m q h lg) (hp : posB ((R u).pb m) = false) : Mid R n s p u (m + 1) q h lg :=
  ⟨H.bfs, H.served, H.hp, H.hu, H.near, H.long, H.part.succ (fun h => by rw [hp] at h; cases h)⟩
theorem Mid.old {R : Nat → RowG} {n s p u m v : Nat} {q : List Nat} {h : Nat → Int} {lg : Int} (H : Mid R n s p u m q h lg) (hv : (R u).to m = (v : Int)) (hn : v < n) (ho : ¬ h v < 0) : Mid R n s p u (m + 1) q h lg :=
  ⟨H.bfs, H.served, H.hp, H.hu, H.near, H.long, H.part.succ (fun _ x hx => by
    have : x = v := by omega
    subst this
    have hm := (H.bfs.vis x hn).1 (by omega)
    exact ⟨hm, H.near x hm⟩)⟩
theorem Mid.new {R : Nat → RowG} {n s p u m v : Nat} {q : List Nat} {h : Nat → Int} {lg : Int} (H : Mid R n s p u m q h lg) (hm : m < (R u).rl) (hp : posB ((R u).pb m) = true) (hv : (R u).to m = (v : Int)) (hn : v < n) (ho : h v < 0) :
    Mid R n s p u (m + 1) (q ++ [v]) (upd h v (h u + 1)) (max lg (h u + 1)) := by
  have hvq : v ∉ q := fun hx => by have := H.bfs.pos hx; omega
  have hg : Edge R u v := ⟨m, hm, hp, hv⟩
  have eu : u ≠ v := fun e => hvq (e ▸ H.umem)
  refine ⟨H.bfs.push H.hp H.hu H.near hg hn ho, H.served.push (Nat.le_of_lt H.hp) hvq, by simp; have := H.hp; omega, ?_, H.near.push H.umem hvq, H.long.push hvq, (H.part.push H.umem hvq).succ (fun _ x hx => ?_)⟩
  · rw [getD_append_lt H.hp]; exact H.hu
  · have : x = v := by omega
    subst this
    rw [upd_same, upd_other eu]
    exact ⟨by simp, Int.le_refl _⟩

theorem Mid.done {R : Nat → RowG} {n s p u : Nat} {q : List Nat} {h : Nat → Int} {lg : Int} (H : Mid R n s p u (R u).rl q h lg) : Served (Edge R) q h (p + 1) ∧ (p + 1 < q.length → Near q h (q.getD (p + 1) 0)) := by
  refine ⟨H.served.next (fun v hv => ?_), fun hp => H.bfs.near (by rw [H.hu]; exact H.near) hp⟩
  rw [H.hu] at hv ⊢
  obtain ⟨c, hc, hpos, hto⟩ := hv
  exact H.part c hc hpos v hto

theorem Mid.ulen {R : Nat → RowG} {n s p u m : Nat} {q : List Nat} {h : Nat → Int} {lg : Int} (H : Mid R n s p u m q h lg) : 0 ≤ h u ∧ h u < n ∧ u < n ∧ q.length ≤ n := by
  have h1 := H.bfs.pos H.umem
  have h2 := H.bfs.idx p H.hp
  rw [H.hu] at h2
  have h3 := H.bfs.len
  have h4 := H.hp
  exact ⟨h1, by omega, H.bfs.bound u H.umem, h3⟩

end Go.Proofs.Qxb6632246a
