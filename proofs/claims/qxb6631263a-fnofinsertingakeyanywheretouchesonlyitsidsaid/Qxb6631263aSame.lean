import Derived.Test.Qxb6631263aOf
namespace Go.Proofs.Qxb6631263a
open Go.RowKit Go.Maps
attribute [local go_sem] Go.wp_at_zero Go.wp_at_succ

/-- What the two boxes hold while nothing but draws turns. -/
def BoxesAt (w wr : World) (x0 x1 y0 y1 y2 : Value) : Prop :=
  Below w.heap.size w wr ∧ wr.cell? ⟨w.heap.size, 0, none⟩ = some x0 ∧ wr.cell? ⟨w.heap.size, 1, none⟩ = some x1 ∧ wr.cell? ⟨w.heap.size + 1, 0, none⟩ = some y0 ∧ wr.cell? ⟨w.heap.size + 1, 1, none⟩ = some y1 ∧ wr.cell? ⟨w.heap.size + 1, 2, none⟩ = some y2
theorem boxes_start (w : World) (x0 x1 y0 y1 y2 : Value) (t u : TypeId) : BoxesAt w ((w.alloc (.cells #[x0, x1] t)).alloc (.cells #[y0, y1, y2] u)) x0 x1 y0 y1 y2 := by
  exact ⟨((Below.refl _ _).alloc (Nat.le_refl _) _).alloc (by simp) _, by simp, by simp, by simp, by simp, by simp⟩
theorem BoxesAt.drew {w wr : World} {x0 x1 y0 y1 y2 : Value} (h : BoxesAt w wr x0 x1 y0 y1 y2) : BoxesAt w wr.drew x0 x1 y0 y1 y2 := ⟨h.1.drew, h.2⟩

set_option maxHeartbeats 800000 in
theorem areRow_yes (nb : Nat) (id : ByteArray) (ca : Option Addr) (n cc : Nat) (cfg : List Int) (past : Int) (w : World) (hn : n ≤ 1048576)
    (hca : n ≤ 0 ∨ ∃ b off, ca = some ⟨b, off, none⟩ ∧ ∀ j, j < n → w.cell? ⟨b, off + j, none⟩ = some (.int .i64 (cfg.getD j 0)))
    (hr : w.rowIs nb 2 n (fun j => .int .i64 (cfg.getD j 0))) :
    Calls Try.prog 12 #[.agg #[.slice (some ⟨nb, 0, none⟩) n n, .int .i64 past], .agg #[.string id, .slice ca n cc, .int .i64 past]] w fun e w' => e = .returned (.bool true) ∧ Below w.heap.size w w' := by
  have hnil := fun w => Lib.run_eql_slice_nil (P := Try.prog) w 28 2 (some ⟨nb, 0, none⟩) n n 0 0 Try.underlying28
  have HR : Hid (w.rowIs nb 2 n (fun j => .int .i64 (cfg.getD j 0))) := hr
  clear hr
  rcases hca with hcl | ⟨b, off, rfl, hc⟩
  · go_enter Try.func12, Try.ntmps12
    go_wp2
    go_loopw [28] (fun i wr => ∃ k : Nat, k ≤ n ∧ i = .int .i64 k ∧ Below w.heap.size w wr) (fun i _ => n - (intOf i).toNat)
    case atStart => exact ⟨0, Nat.zero_le _, rfl, (boxes_start ..).1⟩
    case round =>
      obtain ⟨k, hk, rfl, hb⟩ := hrel
      have hlt : ¬ k < n := by omega
      go_wp2
      go_ret
      exact ⟨rfl, hb⟩
  · go_enter Try.func12, Try.ntmps12
    go_wp2
    go_loopw [28] (fun i wr => ∃ k : Nat, k ≤ n ∧ i = .int .i64 k ∧ BoxesAt w wr (.slice (some ⟨nb, 0, none⟩) n n) (.int .i64 past) (.string id) (.slice (some ⟨b, off, none⟩) n cc) (.int .i64 past)) (fun i _ => n - (intOf i).toNat)
    case atStart => exact ⟨0, Nat.zero_le _, rfl, boxes_start ..⟩
    case round =>
      obtain ⟨k, hk, rfl, hbx⟩ := hrel
      by_cases hlt : k < n
      · have c1 := (hbx.1.cell (World.block_lt_of_cell? w _ (hc k hlt))).trans (hc k hlt)
        have c2 := (hbx.1.cell (p := ⟨nb, k, none⟩) (World.rowIs.lt HR.out)).trans (World.rowIs.cell HR.out hlt)
        have d1 := hbx.2.1
        have d2 := hbx.2.2.2.2.1
        obtain ⟨x, hx⟩ : ∃ x, cfg.getD k 0 = x := ⟨_, rfl⟩
        rw [hx] at c1 c2
        have HX : Hid (BoxesAt w wr.drew (.slice (some ⟨nb, 0, none⟩) n n) (.int .i64 past) (.string id) (.slice (some ⟨b, off, none⟩) n cc) (.int .i64 past)) := hbx.drew
        clear hbx hx hc
        go_wp2
        go_region_held3 (fun w' => w'.cell? ⟨w.heap.size, 0, none⟩ = some (.slice (some ⟨nb, 0, none⟩) n n) ∧ w'.cell? ⟨w.heap.size + 1, 1, none⟩ = some (.slice (some ⟨b, off, none⟩) n cc) ∧ w'.cell? ⟨nb, k, none⟩ = some (.int .i64 x) ∧ w'.cell? ⟨b, off + k, none⟩ = some (.int .i64 x)) (go_keep) (fail)
        all_goals go_wp2
        go_roundw
        case rel => exact ⟨k + 1, by omega, by go_num, HX.out⟩
        case measure => simp [intOf]; omega
      · go_wp2
        go_ret
        exact ⟨rfl, hbx.1⟩

def BoxesAt2 (w wr : World) (x0 y0 : Value) : Prop :=
  Below w.heap.size w wr ∧ wr.cell? ⟨w.heap.size, 0, none⟩ = some x0 ∧ wr.cell? ⟨w.heap.size + 1, 0, none⟩ = some y0
theorem boxes2_start (w : World) (x0 x1 y0 y1 : Value) (t u : TypeId) : BoxesAt2 w ((w.alloc (.cells #[x0, x1] t)).alloc (.cells #[y0, y1] u)) x0 y0 :=
  ⟨((Below.refl _ _).alloc (Nat.le_refl _) _).alloc (by simp) _, by simp, by simp⟩
theorem BoxesAt2.drew {w wr : World} {x0 y0 : Value} (h : BoxesAt2 w wr x0 y0) : BoxesAt2 w wr.drew x0 y0 := ⟨h.1.drew, h.2⟩

theorem same_none (w : World) :
    Calls Try.prog 13 #[.agg #[.slice none 0 0, .int .i64 0], .agg #[.slice none 0 0, .int .i64 0]] w fun e w' => e = .returned (.bool true) ∧ Below w.heap.size w w' := by
  have hnil := fun w => Lib.run_eql_slice_nil (P := Try.prog) w 28 2 none 0 0 0 0 Try.underlying28
  have HB : Hid _ := (boxes2_start w (.slice none 0 0) (.int .i64 0) (.slice none 0 0) (.int .i64 0) 30 30).1
  go_enter Try.func13, Try.ntmps13
  go_wp2
  refine wp_loop_rounds 1 ?_
  rw [rounds_succ]
  go_wp2
  go_ret
  exact ⟨rfl, HB.out⟩

set_option maxHeartbeats 800000 in
theorem same_some (na nb n : Nat) (cfg : List Int) (past : Int) (w : World) (hn : n ≤ 1048576)
    (ha : w.rowIs na 2 n (fun j => .int .i64 (cfg.getD j 0))) (hr : w.rowIs nb 2 n (fun j => .int .i64 (cfg.getD j 0))) :
    Calls Try.prog 13 #[.agg #[.slice (some ⟨na, 0, none⟩) n n, .int .i64 past], .agg #[.slice (some ⟨nb, 0, none⟩) n n, .int .i64 past]] w fun e w' => e = .returned (.bool true) ∧ Below w.heap.size w w' := by
  have hnil := fun w b => Lib.run_eql_slice_nil (P := Try.prog) w 28 2 (some ⟨b, 0, none⟩) n n 0 0 Try.underlying28
  have HR : Hid (w.rowIs nb 2 n (fun j => .int .i64 (cfg.getD j 0))) := hr
  have HA : Hid (w.rowIs na 2 n (fun j => .int .i64 (cfg.getD j 0))) := ha
  clear hr ha
  go_enter Try.func13, Try.ntmps13
  go_wp2
  go_loopw [32] (fun i wr => ∃ k : Nat, k ≤ n ∧ i = .int .i64 k ∧ BoxesAt2 w wr (.slice (some ⟨na, 0, none⟩) n n) (.slice (some ⟨nb, 0, none⟩) n n)) (fun i _ => n - (intOf i).toNat)
  case atStart => exact ⟨0, Nat.zero_le _, rfl, boxes2_start ..⟩
  case round =>
    obtain ⟨k, hk, rfl, hbx⟩ := hrel
    by_cases hlt : k < n
    · have c1 := (hbx.1.cell (p := ⟨na, k, none⟩) (World.rowIs.lt HA.out)).trans (World.rowIs.cell HA.out hlt)
      have c2 := (hbx.1.cell (p := ⟨nb, k, none⟩) (World.rowIs.lt HR.out)).trans (World.rowIs.cell HR.out hlt)
      have d1 := hbx.2.1
      have d2 := hbx.2.2
      obtain ⟨x, hx⟩ : ∃ x, cfg.getD k 0 = x := ⟨_, rfl⟩
      rw [hx] at c1 c2
      have HX : Hid (BoxesAt2 w wr.drew (.slice (some ⟨na, 0, none⟩) n n) (.slice (some ⟨nb, 0, none⟩) n n)) := hbx.drew
      clear hbx hx
      go_wp2
      go_region_held3 (fun w' => w'.cell? ⟨w.heap.size, 0, none⟩ = some (.slice (some ⟨na, 0, none⟩) n n) ∧ w'.cell? ⟨w.heap.size + 1, 0, none⟩ = some (.slice (some ⟨nb, 0, none⟩) n n) ∧ w'.cell? ⟨na, k, none⟩ = some (.int .i64 x) ∧ w'.cell? ⟨nb, k, none⟩ = some (.int .i64 x)) (go_keep) (fail)
      all_goals go_wp2
      go_roundw
      case rel => exact ⟨k + 1, by omega, by go_num, HX.out⟩
      case measure => simp [intOf]; omega
    · go_wp2
      go_ret
      exact ⟨rfl, hbx.1⟩

/-! ### zzExpected -/
set_option maxHeartbeats 800000 in
theorem expected_none (a : Option Addr) (len cap : Nat) (w : World) :
    Calls Try.prog 10 #[.agg #[.slice none 0 0, .int .i64 0], .slice a len cap, .int .i64 (-1)] w fun e w' => e = .returned (.bool true) ∧ Below w.heap.size w w' := by
  have hnil := fun w => Lib.run_eql_slice_nil (P := Try.prog) w 28 2 none 0 0 0 0 Try.underlying28
  have HB : Hid _ := (Below.refl w.heap.size w).alloc (Nat.le_refl _) (.cells #[.slice none 0 0, .int .i64 0] 30)
  go_enter Try.func10, Try.ntmps10
  go_wp2
  go_ret
  exact ⟨rfl, HB.out⟩

set_option maxHeartbeats 800000 in
theorem expected_some (nb k : Nat) (a : Option Addr) (len cap : Nat) (R : Nat → RowD) (w : World) (hk : k < len) (hl : len ≤ 1048576) (h : RowsAt w a len R) (hsm : (R k).cl ≤ 1048576)
    (hr : w.rowIs nb 2 (R k).cl (fun j => .int .i64 ((R k).cfg.getD j 0))) :
    Calls Try.prog 10 #[.agg #[.slice (some ⟨nb, 0, none⟩) (R k).cl (R k).cl, .int .i64 (R k).past], .slice a len cap, .int .i64 (k : Int)] w fun e w' => e = .returned (.bool true) ∧ Below w.heap.size w w' := by
  obtain ⟨b, off, rfl, hc⟩ := h.1 (by omega)
  obtain ⟨d1, d2, d3⟩ := hc k hk
  have hcfg := h.2 k hk
  have hblt : b < w.heap.size := World.block_lt_of_cell? w _ d1
  generalize hrk : R k = r at *
  obtain ⟨id, ca, cl, cc, cfg, past⟩ := r
  simp only at *
  clear hrk h hc R
  have hB : Below w.heap.size w (w.alloc (.cells #[.slice (some ⟨nb, 0, none⟩) cl cl, .int .i64 past] 30)) := (Below.refl _ _).alloc (Nat.le_refl _) _
  have c1 := (hB.cell (p := ⟨b, off + k * 3, none⟩) hblt).trans d1
  have c2 := (hB.cell (p := ⟨b, off + k * 3 + 1, none⟩) hblt).trans d2
  have c3 := (hB.cell (p := ⟨b, off + k * 3 + 2, none⟩) hblt).trans d3
  have hcf := (hcfg.kept (kept_of_below hB)).form
  have hr2 := hr.of_block (hB.block _ hr.lt)
  have HCF : Hid _ := hcf
  have HR2 : Hid ((w.alloc (.cells #[.slice (some ⟨nb, 0, none⟩) cl cl, .int .i64 past] 30)).rowIs nb 2 cl (fun j => .int .i64 (cfg.getD j 0))) := hr2
  have HB : Hid (Below w.heap.size w (w.alloc (.cells #[.slice (some ⟨nb, 0, none⟩) cl cl, .int .i64 past] 30))) := hB
  clear hcf hr2 hr hB d1 d2 d3 hcfg
  have e0 : (w.alloc (.cells #[.slice (some ⟨nb, 0, none⟩) cl cl, .int .i64 past] 30)).cell? ⟨w.heap.size, 0, none⟩ = some (.slice (some ⟨nb, 0, none⟩) cl cl) := by simp
  have e1 : (w.alloc (.cells #[.slice (some ⟨nb, 0, none⟩) cl cl, .int .i64 past] 30)).cell? ⟨w.heap.size, 1, none⟩ = some (.int .i64 past) := by simp
  go_enter Try.func10, Try.ntmps10
  go_wp2
  go_region_held3 (fun w' => w'.cell? ⟨w.heap.size, 0, none⟩ = some (.slice (some ⟨nb, 0, none⟩) cl cl) ∧ w'.cell? ⟨w.heap.size, 1, none⟩ = some (.int .i64 past) ∧ w'.cell? ⟨b, off + k * 3, none⟩ = some (.string id) ∧
      w'.cell? ⟨b, off + k * 3 + 1, none⟩ = some (.slice ca cl cc) ∧ w'.cell? ⟨b, off + k * 3 + 2, none⟩ = some (.int .i64 past))
    (first | go_keep | (exact ⟨kept_of_below hb2 _ _ e0, kept_of_below hb2 _ _ e1, kept_of_below hb2 _ _ c1, kept_of_below hb2 _ _ c2, kept_of_below hb2 _ _ c3⟩))
    ((go_at_call 12; refine (areRow_yes nb id ca cl cc cfg past _ hsm ?_ ?_).mono ?_; (exact HCF.out); (exact HR2.out); rintro e w2 ⟨rfl, hb2⟩))
  all_goals go_wp2
  all_goals go_ret
  all_goals exact ⟨rfl, HB.out.trans ((Below.refl _ _).drew.trans (hb2.mono (by simp)))⟩

end Go.Proofs.Qxb6631263a
