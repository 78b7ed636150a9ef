import Derived.Test.Qxb6631263aAddKey
import Derived.Test.Qxb6631263aBytes
namespace Go.Proofs.Qxb6631263a
open Go.RowKit Go.Maps
attribute [local go_sem] Go.wp_at_zero Go.wp_at_succ

def upd (L : List UInt8 → Option Ans) (k : List UInt8) (v : Ans) : List UInt8 → Option Ans := fun l => if l = k then some v else L l

/-- What the first k rows, configured in order, leave at each id. -/
def lk (R : Nat → RowD) : Nat → List UInt8 → Option Ans
  | 0 => fun _ => none
  | k + 1 => upd (lk R k) (R k).id.data.toList ((R k).cfg, (R k).past)

theorem Served.step {w w' : World} {sb mb n kb : Nat} {L : List UInt8 → Option Ans} {D : DataW Unit} {id : ByteArray} {v : Ans} (hs : w.rowIs sb 44 1 (fun _ => .map (some mb))) (hm : w.ownsMap Try.prog 9 ptrElem mb n D)
    (h0 : ∀ l, L l = none → Maps.has D (.string l) = false) (h1 : ∀ l v, L l = some v → Maps.has D (.string l) = true ∧ ∃ kb : Nat, D.atKey (.string l) .nil = .lit (.int .i64 kb) ∧ KeyAt w kb v)
    (hm' : w'.ownsMap Try.prog 9 ptrElem mb (n + 1) (D.put (keyLit id) (.lit (.int .i64 kb)))) (hk : KeyAt w' kb v) (hg : w.grownBy w' (some mb)) : Served w' sb mb (n + 1) (upd L id.data.toList v) := by
  have hne : sb ≠ mb := by
    rintro rfl
    obtain ⟨es, c, hc⟩ := ownsMap_isMap hm
    obtain ⟨c1, hc1, _⟩ := hs
    rw [hc] at hc1; cases hc1
  refine ⟨hs.of_block (hg.block _ hs.lt (by simpa using hne)), _, hm', fun l hl => ?_, fun l u hl => ?_⟩
  · unfold upd at hl
    split at hl
    · cases hl
    · rename_i e
      rw [has_put_other (by simpa using e)]
      exact h0 l hl
  · unfold upd at hl
    split at hl
    · rename_i e
      cases hl
      subst e
      exact ⟨has_put_same hm.isMap (by simp [WideAt.IsKeyLit]) _, kb, atKey_put_same hm.isMap (by simp [WideAt.IsKeyLit]) _ _, hk⟩
    · rename_i e
      obtain ⟨h2, kb', h3, h4⟩ := h1 l u hl
      refine ⟨?_, kb', ?_, h4.kept hg (ownsMap_isMap hm)⟩
      · rw [has_put_other (by simpa using e)]; exact h2
      · rw [atKey_put_other (by simpa using e)]; exact h3

theorem CfgAt.form {w : World} {r : RowD} (h : CfgAt w r) : r.cl ≤ 0 ∨ ∃ b off, r.ca = some ⟨b, off, none⟩ ∧ ∀ j, j < r.cl → w.cell? ⟨b, off + j, none⟩ = some (.int .i64 (r.cfg.getD j 0)) := by
  by_cases h0 : 0 < r.cl
  · exact Or.inr (h.2.2 h0)
  · exact Or.inl (by omega)

/-- ZZaddKey, over a row. -/
theorem addKey_row (sb mb n : Nat) (L : List UInt8 → Option Ans) (r : RowD) (w : World) (hcfg : CfgAt w r) (hr : r.cl ≤ 1048576) (hid : r.id.size ≤ 1048576) (hn : n < 1048577) (hs : Served w sb mb n L) :
    Calls Try.prog 15 #[.pointer (some ⟨sb, 0, none⟩), .string r.id, .slice r.ca r.cl r.cc, .int .i64 r.past] w fun e w' =>
      e = .returned (.tuple #[]) ∧ Served w' sb mb (n + 1) (upd L r.id.data.toList (r.cfg, r.past)) ∧ w.grownBy w' (some mb) := by
  obtain ⟨hc, D, hm, h0, h1⟩ := hs
  refine (addKey_some sb mb n D r.id r.ca r.cl r.cc r.cfg r.past w hcfg.1 hcfg.form hr (by unfold maxLen; omega) (by unfold maxLen; omega) hc hm).mono ?_
  rintro e w' ⟨rfl, kb, hm', hk, hg⟩
  exact ⟨rfl, Served.step hc hm h0 h1 hm' hk hg, hg⟩

theorem new_any (w : World) : Calls Try.prog 14 #[] w fun e w' => e = .returned (.pointer (some ⟨w.heap.size + 1, 0, none⟩)) ∧ Served w' (w.heap.size + 1) w.heap.size 0 (fun _ => none) ∧ Below w.heap.size w w' := by
  have hmm := @run_makeMap Try.prog
  have hfin : Served ((w.alloc (.map #[] 0)).alloc (.cells #[.map (some w.heap.size)] 44)) (w.heap.size + 1) w.heap.size 0 (fun _ => none) ∧ Below w.heap.size w ((w.alloc (.map #[] 0)).alloc (.cells #[.map (some w.heap.size)] 44)) := by
    refine ⟨⟨?_, .map [], (World.ownsMap_made w _ _ _).alloc _, fun l _ => rfl, fun l v h => by cases h⟩, ((Below.refl _ _).alloc (Nat.le_refl _) _).alloc (by simp) _⟩
    have h := World.rowIs_alloc (w.alloc (.map #[] 0)) #[.map (some w.heap.size)] 44 (fun _ => .map (some w.heap.size)) (by
      intro i hi
      match i, hi with
      | 0, _ => simp)
    simpa using h
  have HF : Hid _ := hfin
  clear hfin
  go_enter Try.func14, Try.ntmps14
  go_wp2
  go_ret
  exact ⟨rfl, HF.out.1, HF.out.2⟩

set_option maxHeartbeats 800000 in
theorem build_any (a : Option Addr) (len cap : Nat) (R : Nat → RowD) (w : World) (hl : len ≤ 1048577) (hsm : Small len R) (h : RowsAt w a len R) :
    Calls Try.prog 7 #[.slice a len cap] w fun e w' => e = .returned (.pointer (some ⟨w.heap.size + 1, 0, none⟩)) ∧ Served w' (w.heap.size + 1) w.heap.size len (lk R len) ∧ Below w.heap.size w w' := by
  have hcfg := h.2
  have hA : len ≤ 0 ∨ ∃ b off, a = some ⟨b, off, none⟩ ∧ ∀ i, i < len → w.cell? ⟨b, off + i * 3, none⟩ = some (.string (R i).id) ∧
      w.cell? ⟨b, off + i * 3 + 1, none⟩ = some (.slice (R i).ca (R i).cl (R i).cc) ∧ w.cell? ⟨b, off + i * 3 + 2, none⟩ = some (.int .i64 (R i).past) := by
    by_cases h0 : 0 < len
    · exact Or.inr (h.1 h0)
    · exact Or.inl (by omega)
  clear h
  have HC : Hid (∀ i, i < len → CfgAt w (R i)) := hcfg
  have HS : Hid (Small len R) := hsm
  clear hcfg hsm
  rcases hA with hcl | ⟨b, off, rfl, hc⟩
  all_goals
    go_enter Try.func7, Try.ntmps7
    go_wp2_with (go_at_call 14; refine (new_any _).mono ?_; rintro e w1 ⟨rfl, hs1, hb1⟩)
    go_loopw [8] (fun i wr => ∃ k : Nat, k ≤ len ∧ i = .int .i64 k ∧ Served wr (w.heap.size + 1) w.heap.size k (lk R k) ∧ Below w.heap.size w wr) (fun i _ => len - (intOf i).toNat)
    case atStart => exact ⟨0, Nat.zero_le _, rfl, hs1, hb1⟩
    case round =>
      obtain ⟨k, hk, rfl, hs, hb⟩ := hrel
      by_cases hlt : k < len
      · first
        | (exfalso; omega)
        | (obtain ⟨d1, d2, d3⟩ := hc k hlt
           have hblt : b < w.heap.size := World.block_lt_of_cell? w _ d1
           have hwlt : w.heap.size ≤ wr.heap.size := hb.size
           have c1 := (hb.cell (World.block_lt_of_cell? w _ d1)).trans d1
           have c2 := (hb.cell (World.block_lt_of_cell? w _ d2)).trans d2
           have c3 := (hb.cell (World.block_lt_of_cell? w _ d3)).trans d3
           have hcfg := (HC.out k hlt).kept (fun a v hv => (hb.cell (World.block_lt_of_cell? w _ hv)).trans hv)
           have hkk := HS.out k hlt
           clear hc d1 d2 d3
           go_wp2
           go_region_held3 (fun w' => w'.cell? ⟨b, off + k * 3, none⟩ = some (.string (R k).id) ∧ w'.cell? ⟨b, off + k * 3 + 1, none⟩ = some (.slice (R k).ca (R k).cl (R k).cc) ∧ w'.cell? ⟨b, off + k * 3 + 2, none⟩ = some (.int .i64 (R k).past)) (first | go_keep | (exact ⟨hg.cell c1 (by simp; omega), hg.cell c2 (by simp; omega), hg.cell c3 (by simp; omega)⟩))
             ((go_at_call 15; refine (addKey_row (w.heap.size + 1) w.heap.size k (lk R k) (R k) _ ?_ hkk.1 hkk.2 (by omega) ?_).mono ?_; (exact hcfg); (exact hs.below ((Below.refl _ _).drew)); rintro e w2 ⟨rfl, hs2, hg⟩))
           go_wp2
           go_roundw
           case rel => exact ⟨k + 1, by omega, by go_num, hs2, hb.drew.grown (row := some w.heap.size) hg hb.size (fun j hj => by cases hj; exact Nat.le_refl _)⟩
           case measure => simp [intOf]; omega)
      · obtain rfl : k = len := by omega
        go_wp2
        go_ret
        exact ⟨rfl, hs, hb⟩

end Go.Proofs.Qxb6631263a
