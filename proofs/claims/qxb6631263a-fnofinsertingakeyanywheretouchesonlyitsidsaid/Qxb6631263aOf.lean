import Derived.Test.Qxb6631263aBuild
import Derived.Deep.DeepCutAuto
namespace Go.Proofs.Qxb6631263a
open Go.RowKit Go.Maps
attribute [local go_sem] Go.wp_at_zero Go.wp_at_succ

abbrev box30 : Obj := .cells #[.slice none 0 0, .int .i64 0] 30

theorem rowIs_cell_alloc {w : World} {b t n i : Nat} {f : Nat → Value} (h : w.rowIs b t n f) (hi : i < n) (o : Obj) : (w.alloc o).cell? ⟨b, i, none⟩ = some (f i) := (h.alloc o).cell hi

theorem of_none (sb mb n : Nat) (L : List UInt8 → Option Ans) (id : ByteArray) (w : World) (hs : Served w sb mb n L) (hid : id.size ≤ 1048576) (hL : L id.data.toList = none) :
    Calls Try.prog 9 #[.pointer (some ⟨sb, 0, none⟩), .string id] w fun e w' => e = .returned (.agg #[.slice none 0 0, .int .i64 0]) ∧ Below w.heap.size w w' := by
  obtain ⟨hc, D, hm, h0, h1⟩ := hs
  obtain ⟨v, ps, hrun, hv⟩ := (hm.alloc box30).look_ok law9 Try.underlying42 (zero40 _) ptrElem_nil (WideMaps.keyOf_string_mk Try.underlying9 (s := id) (by unfold maxLen; omega))
  rw [h0 _ hL] at hrun
  have hc1 := rowIs_cell_alloc hc (i := 0) (by omega) box30
  clear h0 h1 hm hv hc
  go_enter Try.func9, Try.ntmps9
  go_wp2
  exact bodyPost_ret (v := .agg #[.slice none 0 0, .int .i64 0]) (by simp [results, Try.results9, go_sem]) rfl ⟨rfl, (Below.refl _ _).alloc (Nat.le_refl _) _⟩

theorem make28 (n : Nat) (hn : n ≤ 1048576) (w : World) :
    (Instr.makeSlice 28 (.int .i64 (n : Int)) (.int .i64 (n : Int))).run Try.prog w = .ok (.slice (some ⟨w.heap.size, 0, none⟩) n n) (w.alloc (.cells (madeCells #[.int .i64 0] n) 2)) :=
  run_make_row' 28 2 (.int .i64 0) 8 Try.underlying28 i2 rfl .i64 .i64 n (by omega) (by omega) w

/-- Between the two halves of Of. -/
structure OfMid (w wc : World) (len : Nat) (past : Int) (tb nb : Nat) (f : Nat → Value) : Prop where
  t : wc.rowIs tb 30 2 (cells54 nb len past)
  n : wc.rowIs nb 2 len f
  r : ∃ g, wc.rowIs w.heap.size 30 2 g
  b : Below w.heap.size w wc
  ne : tb ≠ nb
  lt1 : w.heap.size < tb
  lt2 : w.heap.size < nb

theorem two_cells {w : World} {t : TypeId} {b len : Nat} {past : Int} : (w.alloc (.cells #[.slice (some ⟨b, 0, none⟩) len len, .int .i64 past] t)).rowIs w.heap.size t 2 (cells54 b len past) :=
  World.rowIs_alloc w #[.slice (some ⟨b, 0, none⟩) len len, .int .i64 past] t (cells54 b len past) (by
    intro i hi
    match i, hi with
    | 0, _ => simp [cells54]
    | 1, _ => simp [cells54])

theorem box_cells {w : World} : ∃ g, (w.alloc box30).rowIs w.heap.size 30 2 g :=
  ⟨fun j => if j = 0 then .slice none 0 0 else .int .i64 0, World.rowIs_alloc w #[.slice none 0 0, .int .i64 0] 30 _ (by
    intro i hi
    match i, hi with
    | 0, _ => simp
    | 1, _ => simp)⟩

theorem midA (w : World) (cfg : List Int) (len : Nat) (past : Int) :
    OfMid w (((w.alloc box30).alloc (.cells (madeCells #[.int .i64 0] len) 2)).alloc (.cells #[.slice (some ⟨w.heap.size + 1, 0, none⟩) len len, .int .i64 past] 30)) len past (w.heap.size + 1 + 1) (w.heap.size + 1) (cells52 cfg 0) := by
  obtain ⟨g, hg⟩ := box_cells (w := w)
  refine ⟨?_, ?_, ⟨g, (hg.alloc _).alloc _⟩, (((Below.refl _ _).alloc (Nat.le_refl _) _).alloc (by simp) _).alloc (by simp; omega) _, by omega, by omega, by omega⟩
  · simpa using two_cells (w := (w.alloc box30).alloc (.cells (madeCells #[.int .i64 0] len) 2)) (t := 30) (b := w.heap.size + 1) (len := len) (past := past)
  · have h := (World.rowIs_made (w.alloc box30) (.int .i64 0) len 2).alloc (.cells #[.slice (some ⟨w.heap.size + 1, 0, none⟩) len len, .int .i64 past] 30)
    simp only [World.size_alloc] at h
    exact h.congr (fun i hi => by simp [cells52])

theorem midB (w : World) (cfg : List Int) (len : Nat) (past : Int) :
    OfMid w (((w.alloc box30).alloc (.cells #[.slice (some ⟨w.heap.size + 1 + 1, 0, none⟩) len len, .int .i64 past] 30)).alloc (.cells (madeCells #[.int .i64 0] len) 2)) len past (w.heap.size + 1) (w.heap.size + 1 + 1) (cells52 cfg 0) := by
  obtain ⟨g, hg⟩ := box_cells (w := w)
  refine ⟨?_, ?_, ⟨g, (hg.alloc _).alloc _⟩, (((Below.refl _ _).alloc (Nat.le_refl _) _).alloc (by simp) _).alloc (by simp; omega) _, by omega, by omega, by omega⟩
  · have h := (two_cells (w := w.alloc box30) (t := 30) (b := w.heap.size + 1 + 1) (len := len) (past := past)).alloc (.cells (madeCells #[.int .i64 0] len) 2)
    simpa only [World.size_alloc] using h
  · have h := World.rowIs_made ((w.alloc box30).alloc (.cells #[.slice (some ⟨w.heap.size + 1 + 1, 0, none⟩) len len, .int .i64 past] 30)) (.int .i64 0) len 2
    simp only [World.size_alloc] at h
    exact h.congr (fun i hi => by simp [cells52])

theorem OfMid.drew {w wc : World} {len : Nat} {past : Int} {tb nb : Nat} {f : Nat → Value} (h : OfMid w wc len past tb nb f) : OfMid w wc.drew len past tb nb f :=
  ⟨h.t.drew, h.n.drew, h.r, h.b.drew, h.ne, h.lt1, h.lt2⟩

theorem OfMid.step {w wc : World} {len : Nat} {past : Int} {tb nb k : Nat} {cfg : List Int} (h : OfMid w wc len past tb nb (cells52 cfg k)) :
    OfMid w (wc.setCell ⟨nb, k, none⟩ (.int .i64 (cfg.getD k 0))) len past tb nb (cells52 cfg (k + 1)) := by
  have h1 := h.lt2
  obtain ⟨g, hg⟩ := h.r
  refine ⟨h.t.setOther h.ne _, (h.n.set k _).congr (fun i hi => ?_), ⟨g, hg.setOther (by simp; omega) _⟩, h.b.setCell (by simp; omega) _, h.ne, h.lt1, h.lt2⟩
  simp only [cells52]
  by_cases e : i = k
  · subst e; simp
  · rw [if_neg e]
    by_cases e2 : i < k
    · rw [if_pos e2, if_pos (by omega)]
    · rw [if_neg e2, if_neg (by omega)]

/-- The result's box behind the last store. -/
theorem OfMid.done {w wc : World} {len : Nat} {past : Int} {tb nb : Nat} {f : Nat → Value} {a b : Value} (h : OfMid w wc len past tb nb f) :
    ((wc.setCell ⟨w.heap.size, 0, none⟩ a).setCell ⟨w.heap.size, 1, none⟩ b).cell? ⟨w.heap.size, 0, none⟩ = some a ∧ ((wc.setCell ⟨w.heap.size, 0, none⟩ a).setCell ⟨w.heap.size, 1, none⟩ b).cell? ⟨w.heap.size, 1, none⟩ = some b ∧
    ((wc.setCell ⟨w.heap.size, 0, none⟩ a).setCell ⟨w.heap.size, 1, none⟩ b).rowIs nb 2 len f ∧ Below w.heap.size w ((wc.setCell ⟨w.heap.size, 0, none⟩ a).setCell ⟨w.heap.size, 1, none⟩ b) := by
  obtain ⟨g, hg⟩ := h.r
  have h1 := (hg.set 0 a).set 1 b
  have l2 := h.lt2
  refine ⟨by simpa using h1.cell (i := 0) (by omega), by simpa using h1.cell (i := 1) (by omega), (h.n.setOther (by simp; omega) _).setOther (by simp; omega) _, (h.b.setCell (by simp) _).setCell (by simp) _⟩

set_option maxHeartbeats 800000 in
theorem of_some (sb mb n : Nat) (L : List UInt8 → Option Ans) (id : ByteArray) (cfg : List Int) (past : Int) (w : World) (hs : Served w sb mb n L) (hid : id.size ≤ 1048576) (hL : L id.data.toList = some (cfg, past)) :
    Calls Try.prog 9 #[.pointer (some ⟨sb, 0, none⟩), .string id] w fun e w' => ∃ nb, e = .returned (.agg #[.slice (some ⟨nb, 0, none⟩) cfg.length cfg.length, .int .i64 past]) ∧
      w'.rowIs nb 2 cfg.length (fun j => .int .i64 (cfg.getD j 0)) ∧ w.heap.size ≤ nb ∧ Below w.heap.size w w' := by
  obtain ⟨hc, D, hm, h0, h1⟩ := hs
  obtain ⟨v, ps, hrun, hv⟩ := (hm.alloc box30).look_ok law9 Try.underlying42 (zero40 _) ptrElem_nil (WideMaps.keyOf_string_mk Try.underlying9 (s := id) (by unfold maxLen; omega))
  obtain ⟨h2, kb, h3, cb, k1, k2, k3⟩ := h1 _ _ hL
  rw [h2] at hrun
  rw [h3] at hv
  obtain rfl := ptrElem_inv hv
  have hc1 := rowIs_cell_alloc hc (i := 0) (by omega) box30
  have hkb := k1.lt
  have hcb := k2.lt
  simp only at k3
  have hmk := make28 cfg.length k3
  have q1 := rowIs_cell_alloc k1 (i := 0) (by omega) box30
  have q2 := rowIs_cell_alloc k1 (i := 1) (by omega) box30
  simp only [if_true, Nat.succ_ne_zero, if_false] at q1 q2
  have HK : Hid (w.rowIs cb 52 cfg.length (fun j => .int .i64 (cfg.getD j 0))) := k2
  have d1 := k1.cell (i := 0) (by omega)
  simp only [if_true] at d1
  clear h0 h1 hm hv hc k1 k2 h3 h2 hL
  go_enter Try.func9, Try.ntmps9
  go_wp2
  go_cut [7] (fun v wc => ∃ tb nb, v = .pointer (some ⟨tb, 0, none⟩) ∧ OfMid w wc cfg.length past tb nb (cells52 cfg 0))
  case first =>
    go_region_held3 (fun w' => w'.cell? ⟨kb, 0, none⟩ = some (.slice (some ⟨cb, 0, none⟩) cfg.length cfg.length) ∧ w'.cell? ⟨kb, 1, none⟩ = some (.int .i64 past)) (go_keep)
      ((go_at_call 16; refine (load_any _ _ past _ ?_).mono ?_; (simp [*]); rintro e w' ⟨rfl, rfl⟩))
    all_goals go_wp2
    all_goals go_meet
    all_goals first
      | exact ⟨_, _, rfl, (midA w cfg cfg.length past).drew⟩
      | exact ⟨_, _, rfl, (midB w cfg cfg.length past).drew⟩
  case rest =>
    obtain ⟨tb, nb, rfl, hmid⟩ := hcut
    clear q1 q2 hc1 hrun hmk
    have q1 := (hmid.b.cell (p := ⟨kb, 0, none⟩) hkb).trans d1
    go_wp2
    go_loopw [38] (fun i wr => ∃ k : Nat, k ≤ cfg.length ∧ i = .int .i64 k ∧ OfMid w wr cfg.length past tb nb (cells52 cfg k)) (fun i _ => cfg.length - (intOf i).toNat)
    case atStart => exact ⟨0, Nat.zero_le _, rfl, hmid⟩
    case round =>
      clear hmid q1
      obtain ⟨k, hk, rfl, hmid⟩ := hrel
      have q1 := (hmid.b.cell (p := ⟨kb, 0, none⟩) hkb).trans d1
      have t0 := hmid.t.cell (i := 0) (by omega)
      have t1 := hmid.t.cell (i := 1) (by omega)
      simp only [cells54, if_true, Nat.succ_ne_zero, if_false] at t0 t1
      have l1 := hmid.lt1
      have l2 := hmid.lt2
      by_cases hlt : k < cfg.length
      · have q2 := (hmid.b.cell (p := ⟨cb, k, none⟩) hcb).trans (World.rowIs.cell HK.out hlt)
        have n0 := hmid.n.cell hlt
        simp only [cells52, Nat.lt_irrefl, if_false] at n0
        have nf := hmid.n.frozen k
        have e1 : ¬ nb = tb := fun e => hmid.ne e.symm
        have e2 : ¬ tb = nb := fun e => hmid.ne e
        have e3 : ¬ nb = kb := by omega
        have e4 : ¬ kb = nb := by omega
        have e5 : ¬ nb = cb := by omega
        have e6 : ¬ cb = nb := by omega
        have hst : OfMid w (wr.setCell ⟨nb, k, none⟩ (.int .i64 (cfg.getD k 0))).drew cfg.length past tb nb (cells52 cfg (k + 1)) := hmid.step.drew
        obtain ⟨x, hx⟩ : ∃ x, cfg.getD k 0 = x := ⟨_, rfl⟩
        rw [hx] at q2 hst
        have HST : Hid (OfMid w (wr.setCell ⟨nb, k, none⟩ (.int .i64 x)).drew cfg.length past tb nb (cells52 cfg (k + 1))) := hst
        clear hst hmid d1 hx
        go_wp2
        go_region_held3 (fun w' => w'.cell? ⟨tb, 0, none⟩ = some (.slice (some ⟨nb, 0, none⟩) cfg.length cfg.length) ∧ w'.cell? ⟨kb, 0, none⟩ = some (.slice (some ⟨cb, 0, none⟩) cfg.length cfg.length) ∧ w'.cell? ⟨cb, k, none⟩ = some (.int .i64 x)) (go_keep)
          ((go_at_call 16; refine (load_any _ _ x _ ?_).mono ?_; (simp [*]); rintro e w' ⟨rfl, rfl⟩))
        all_goals go_wp2
        all_goals go_roundw
        case rel => exact ⟨k + 1, by omega, by go_num, HST.out⟩
        case measure => simp [intOf]; omega
      · have hkl : k = cfg.length := by omega
        obtain ⟨g, hg⟩ := hmid.r
        have r0 := hg.cell (i := 0) (by omega)
        have r1 := hg.cell (i := 1) (by omega)
        have f0 := hg.frozen 0
        have f1 := hg.frozen 1
        have e1 : ¬ w.heap.size = tb := by omega
        have e2 : ¬ tb = w.heap.size := by omega
        have HM : Hid (OfMid w wr cfg.length past tb nb (cells52 cfg k) ∧ k = cfg.length) := ⟨hmid, hkl⟩
        clear hmid hg hkl
        go_wp2
        obtain ⟨hmid, rfl⟩ := HM.out
        obtain ⟨z0, z1, z2, z3⟩ := hmid.done (a := .slice (some ⟨nb, 0, none⟩) cfg.length cfg.length) (b := .int .i64 past)
        refine bodyPost_ret (v := .agg #[.slice (some ⟨nb, 0, none⟩) cfg.length cfg.length, .int .i64 past]) (by simp [results, Try.results9, go_sem, z0, z1]) rfl ⟨nb, rfl, z2.congr (fun i hi => by simp [cells52, hi]), by omega, z3⟩

end Go.Proofs.Qxb6631263a
