import Derived.Test.Qxb6632246aPre
namespace Go.Proofs.Qxb6632246a
open Go.RowKit
attribute [local go_sem] run_store_float
attribute [local go_sem] Go.wp_at_zero Go.wp_at_succ

/-- The cells of a row of arcs. -/
def arcFn (to : Nat → Int) (pb : Nat → Nat) : Nat → Value := fun t => if t % 2 = 0 then .int .i64 (to (t / 2)) else .float .f64 (pb (t / 2))
/-- .. of which the first m are laid. -/
def partFn (to : Nat → Int) (pb : Nat → Nat) (m : Nat) : Nat → Value := fun t => if t < m * 2 then arcFn to pb t else if t % 2 = 0 then .int .i64 0 else .float .f64 0

theorem i38 : (Try.prog.info? 38).map (fun i => (i.zero, i.size, i.bytes)) = some (some (.agg #[.int .i64 0, .float .f64 0]), 2, 16) := by kernel_rfl
theorem i34 : (Try.prog.info? 34).map (fun i => (i.zero, i.size, i.bytes)) = some (some (.slice none 0 0), 1, 24) := by kernel_rfl
theorem i3 : (Try.prog.info? 3).map (fun i => (i.zero, i.size, i.bytes)) = some (some (.int .i64 0), 1, 8) := by kernel_rfl
theorem i9 : (Try.prog.info? 9).map (fun i => (i.zero, i.size, i.bytes)) = some (some (.string ByteArray.empty), 1, 16) := by kernel_rfl

theorem make26 (n : Nat) (hn : n ≤ 1048576) (w : World) :
    (Instr.makeSlice 26 (.int .i64 (n : Int)) (.int .i64 (n : Int))).run Try.prog w = .ok (.slice (some ⟨w.heap.size, 0, none⟩) n n) (w.alloc (.cells (madeCells #[.slice none 0 0] n) 34)) :=
  run_make_row' 26 34 (.slice none 0 0) 24 Try.underlying26 i34 rfl .i64 .i64 n (by omega) (by omega) w
theorem make39 (n : Nat) (hn : n ≤ 1048576) (w : World) :
    (Instr.makeSlice 39 (.int .i64 (n : Int)) (.int .i64 (n : Int))).run Try.prog w = .ok (.slice (some ⟨w.heap.size, 0, none⟩) n n) (w.alloc (.cells (madeCells #[.int .i64 0] n) 3)) :=
  run_make_row' 39 3 (.int .i64 0) 8 Try.underlying39 i3 rfl .i64 .i64 n (by omega) (by omega) w
theorem make22 (n : Nat) (hn : n ≤ 1048576) (w : World) :
    (Instr.makeSlice 22 (.int .i64 (n : Int)) (.int .i64 (n : Int))).run Try.prog w = .ok (.slice (some ⟨w.heap.size, 0, none⟩) n n) (w.alloc (.cells (madeCells #[.string ByteArray.empty] n) 9)) :=
  run_make_row' 22 9 (.string ByteArray.empty) 16 Try.underlying22 i9 rfl .i64 .i64 n (by omega) (by omega) w
theorem make34 (n : Nat) (hn : n ≤ 1048576) (w : World) :
    (Instr.makeSlice 34 (.int .i64 (n : Int)) (.int .i64 (n : Int))).run Try.prog w = .ok (.slice (some ⟨w.heap.size, 0, none⟩) n n) (w.alloc (.cells (madeCells #[.int .i64 0, .float .f64 0] (n * 2)) 38)) := by
  obtain ⟨i, hi, hzz⟩ := Option.map_eq_some_iff.1 i38
  simp only [Prod.mk.injEq] at hzz
  obtain ⟨hz, hs, hb⟩ := hzz
  have hr := run_make (P := Try.prog) w 34 38 i (.agg #[.int .i64 0, .float .f64 0]) Try.underlying34 hi hz .i64 .i64 n n (by omega) (Int.le_refl _) (by rw [hb]; omega) (by omega)
  simp only [Int.toNat_natCast, hs, Value.cells] at hr
  exact hr

theorem made2 (w : World) (to : Nat → Int) (pb : Nat → Nat) (n : Nat) : (w.alloc (.cells (madeCells #[.int .i64 0, .float .f64 0] (n * 2)) 38)).rowIs w.heap.size 38 (n * 2) (partFn to pb 0) := by
  have h := World.rowIs_alloc w (madeCells #[.int .i64 0, .float .f64 0] (n * 2)) 38 (partFn to pb 0) (by
    intro i hi
    simp [madeCells] at hi
    simp [madeCells, hi, partFn]
    rcases Nat.mod_two_eq_zero_or_one i with e | e <;> simp [e])
  simpa [madeCells] using h

theorem part_step {w : World} {lb n m : Nat} {to : Nat → Int} {pb : Nat → Nat} (h : w.rowIs lb 38 (n * 2) (partFn to pb m)) :
    ((w.setCell ⟨lb, m * 2, none⟩ (.int .i64 (to m))).setCell ⟨lb, m * 2 + 1, none⟩ (.float .f64 (pb m))).rowIs lb 38 (n * 2) (partFn to pb (m + 1)) := by
  refine ((h.set (m * 2) _).set (m * 2 + 1) _).congr (fun t ht => ?_)
  simp only [partFn, arcFn]
  by_cases e1 : t = m * 2 + 1
  · subst e1
    have e2 : (m * 2 + 1) % 2 = 1 := by omega
    have e3 : (m * 2 + 1) / 2 = m := by omega
    simp [e2, e3]
    omega
  · rw [if_neg e1]
    by_cases e2 : t = m * 2
    · subst e2
      have e3 : m * 2 % 2 = 0 := by omega
      have e4 : m * 2 / 2 = m := by omega
      rw [if_pos rfl, if_pos (by omega), if_pos e3, e4]
    · rw [if_neg e2]
      by_cases e5 : t < m * 2
      · have e6 : t < (m + 1) * 2 := by omega
        simp only [e5, e6, if_true]
      · have e6 : ¬ t < (m + 1) * 2 := by omega
        simp only [e5, e6, if_false]

theorem part_full {w : World} {lb n : Nat} {to : Nat → Int} {pb : Nat → Nat} (h : w.rowIs lb 38 (n * 2) (partFn to pb n)) : w.rowIs lb 38 (n * 2) (arcFn to pb) :=
  h.congr (fun t ht => by simp only [partFn]; rw [if_pos (by omega)])

/-- A row's copy in block B. -/
def copyRow (r : RowG) (B : Nat) : RowG := { r with ra := if r.ra.isNone then none else some ⟨B, 0, none⟩, rb := B, ro := 0, rc := r.rl }
def outFn (R : Nat → RowG) (B : Nat → Nat) (k : Nat) : Nat → Value := fun j => if j < k then .slice (copyRow (R j) (B j)).ra (R j).rl (R j).rl else .slice none 0 0

/-- While the copy is made: block ob holds the rows, each row's copy lies in its own block. -/
structure Copied (w wr : World) (ob al k : Nat) (R : Nat → RowG) (B : Nat → Nat) : Prop where
  out : wr.rowIs ob 34 al (outFn R B k)
  rows : ∀ j, j < k → (R j).ra ≠ none → wr.rowIs (B j) 38 ((R j).rl * 2) (arcFn (R j).to (R j).pb) ∧ ob < B j
  b : Below ob w wr

theorem Copied.nil {w wr : World} {ob al k : Nat} {R : Nat → RowG} {B : Nat → Nat} (h : Copied w wr ob al k R B) (hn : (R k).ra = none) (hz : (R k).rl = 0) : Copied w wr ob al (k + 1) R B := by
  refine ⟨h.out.congr (fun j hj => ?_), fun j hj hne => h.rows j ?_ hne, h.b⟩
  · simp only [outFn]
    by_cases e : j < k
    · rw [if_pos e, if_pos (by omega)]
    · rw [if_neg e]
      by_cases e2 : j = k
      · subst e2; rw [if_pos (by omega), copyRow, hn, hz]; rfl
      · rw [if_neg (by omega)]
  · by_cases e : j = k
    · subst e; exact absurd hn hne
    · omega

/-- Behind the inner loop: the new row's block lb, then the store into the outer row. -/
theorem Copied.row {w wr w2 : World} {ob al k lb : Nat} {R : Nat → RowG} {B : Nat → Nat} (h : Copied w wr ob al k R B) (hn : (R k).ra ≠ none) (hlb : wr.heap.size ≤ lb) (hb : Below wr.heap.size wr w2)
    (hr : w2.rowIs lb 38 ((R k).rl * 2) (arcFn (R k).to (R k).pb)) : Copied w (w2.setCell ⟨ob, k, none⟩ (.slice (some ⟨lb, 0, none⟩) (R k).rl (R k).rl)) ob al (k + 1) R (fun j => if j = k then lb else B j) := by
  have hob := h.out.lt
  have ho := h.out.of_block (hb.block _ hob)
  refine ⟨(ho.set k _).congr (fun j hj => ?_), fun j hj hne => ?_, (h.b.trans (hb.mono (by omega))).setCell (by simp) _⟩
  · simp only [outFn]
    by_cases e : j = k
    · subst e
      rw [if_pos rfl, if_pos (by omega), if_pos rfl, copyRow]
      cases hra : (R j).ra with
      | none => exact absurd hra hn
      | some x => rfl
    · rw [if_neg e]
      by_cases e2 : j < k
      · rw [if_pos e2, if_pos (by omega), if_neg e]
      · rw [if_neg e2, if_neg (by omega)]
  · by_cases e : j = k
    · subst e
      rw [if_pos rfl]
      exact ⟨hr.setOther (by simp; omega) _, by omega⟩
    · rw [if_neg e]
      obtain ⟨h1, h2⟩ := h.rows j (by omega) hne
      exact ⟨(h1.of_block (hb.block _ h1.lt)).setOther (by simp; omega) _, h2⟩

theorem Copied.grid {w wr : World} {ob al : Nat} {R : Nat → RowG} {B : Nat → Nat} (h : Copied w wr ob al al R B) (hnil : ∀ j, j < al → (R j).ra = none → (R j).rl = 0) :
    GridAt wr (some ⟨ob, 0, none⟩) ob 0 al (fun j => copyRow (R j) (B j)) := by
  refine ⟨Or.inr rfl, fun i hi => ?_, fun i hi => ?_⟩
  · have := h.out.cell hi
    rw [outFn, if_pos hi] at this
    rw [Nat.zero_add]
    exact this
  · cases hra : (R i).ra with
    | none =>
      have hz := hnil i hi hra
      exact ⟨Or.inl (by simp [copyRow, hz]), fun _ => by simp [copyRow, hz], fun c hc => by simp [copyRow, hz] at hc⟩
    | some x =>
      obtain ⟨h1, _⟩ := h.rows i hi (by rw [hra]; simp)
      refine ⟨Or.inr (by simp [copyRow, hra]), fun hn => by simp [copyRow, hra] at hn, fun c hc => ?_⟩
      simp only [copyRow, Nat.zero_add] at hc ⊢
      have q0 := h1.cell (i := c * 2) (by omega)
      have q1 := h1.cell (i := c * 2 + 1) (by omega)
      simp only [arcFn] at q0 q1
      rw [if_pos (by omega), show c * 2 / 2 = c from by omega] at q0
      rw [if_neg (by omega), show (c * 2 + 1) / 2 = c from by omega] at q1
      exact ⟨q0, q1⟩

/-- What zzToLinks leaves. -/
def AnsCopy (w : World) (al : Nat) (R : Nat → RowG) (e : Ending) (w' : World) : Prop :=
  ∃ (la : Option Addr) (lb : Nat) (B : Nat → Nat), e = .returned (.slice la al al) ∧ GridAt w' la lb 0 al (fun j => copyRow (R j) (B j)) ∧ Below w.heap.size w w'

theorem copy_nil (ac : Nat) (R : Nat → RowG) (w : World) : Calls Try.prog 8 #[.slice none 0 ac] w (AnsCopy w 0 R) := by
  have hnil := fun w => Lib.run_eql_slice_nil (P := Try.prog) w 23 33 none 0 ac 0 0 Try.underlying23
  have HF : Hid (AnsCopy w 0 R (.returned (.slice none 0 0)) w) := ⟨none, 0, fun _ => 0, rfl, ⟨Or.inl (Nat.le_refl _), fun i hi => by omega, fun i hi => by omega⟩, Below.refl _ _⟩
  go_enter Try.func8, Try.ntmps8
  go_wp2
  go_ret
  exact HF.out

set_option maxHeartbeats 1600000 in
theorem copy_some (a0 : Addr) (ab ao al ac : Nat) (R : Nat → RowG) (w : World) (hal : al ≤ 1048576) (hsm : ∀ i, i < al → (R i).rl ≤ 1048576) (hg : GridAt w (some a0) ab ao al R) :
    Calls Try.prog 8 #[.slice (some a0) al ac] w (AnsCopy w al R) := by
  have hnil := fun w => Lib.run_eql_slice_nil (P := Try.prog) w 23 33 (some a0) al ac 0 0 Try.underlying23
  have hnil2 := fun w x l c => Lib.run_eql_slice_nil (P := Try.prog) w 33 37 x l c 0 0 Try.underlying33
  have hmk := make26 al hal
  have HG : Hid (GridAt w (some a0) ab ao al R) := hg
  have HSM : Hid (∀ i, i < al → (R i).rl ≤ 1048576) := hsm
  have h0 : Copied w (w.alloc (.cells (madeCells #[.slice none 0 0] al) 34)) w.heap.size al 0 R (fun _ => 0) :=
    ⟨(World.rowIs_made w (.slice none 0 0) al 34).congr (fun j hj => by simp [outFn]), fun j hj => by omega, (Below.refl _ _).alloc (Nat.le_refl _) _⟩
  clear hg hsm
  go_enter Try.func8, Try.ntmps8
  go_wp2
  go_loopw [4] (fun i wr => ∃ (k : Nat) (B : Nat → Nat), k ≤ al ∧ i = .int .i64 k ∧ Copied w wr w.heap.size al k R B) (fun i _ => al - (intOf i).toNat)
  case atStart => exact ⟨0, _, Nat.zero_le _, rfl, h0⟩
  case round =>
    clear h0 hmk
    obtain ⟨k, B, hk, rfl, hC⟩ := hrel
    by_cases hlt : k < al
    · obtain rfl : a0 = ⟨ab, ao, none⟩ := by
        have := HG.out.form.resolve_left (by omega)
        simpa using this
      have c1 := kept_of_below hC.b _ _ (HG.out.cell k hlt)
      have hA := HG.out.rows k hlt
      cases hra : (R k).ra with
      | none =>
        rw [hra] at c1
        have HC1 : Hid (Copied w wr w.heap.size al (k + 1) R B) := hC.nil hra (hA.nil hra)
        clear hC hA
        go_wp2
        go_roundw
        case rel => exact ⟨k + 1, B, by omega, by go_num, HC1.out⟩
        case measure => simp [intOf]; omega
      | some x =>
        rw [hra] at c1
        have hne : (R k).ra ≠ none := by rw [hra]; simp
        have hform : (R k).rl ≤ 0 ∨ x = ⟨(R k).rb, (R k).ro, none⟩ := by
          rcases hA.form with h1 | h1
          · exact Or.inl h1
          · rw [hra] at h1; exact Or.inr (by simpa using h1)
        have hrl := HSM.out k hlt
        have hmk2 := make34 (R k).rl hrl
        have HC : Hid (Copied w wr w.heap.size al k R B) := hC
        have HA : Hid (ArcsAt w (R k)) := hA
        have HNE : Hid ((R k).ra ≠ none) := hne
        have HM0 : Hid ((wr.alloc (.cells (madeCells #[.int .i64 0, .float .f64 0] ((R k).rl * 2)) 38)).rowIs wr.heap.size 38 ((R k).rl * 2) (partFn (R k).to (R k).pb 0)) := made2 wr _ _ _
        have hob := hC.out.lt
        clear hC hA hne hra
        rcases hform with hz | rfl
        all_goals
          go_wp2
          obtain ⟨wA, hwA⟩ : ∃ wA, wA = wr := ⟨wr, rfl⟩
          subst hwA
          go_loopw [7] (fun i wr => ∃ m : Nat, m ≤ (R k).rl ∧ i = .int .i64 m ∧ wr.rowIs wA.heap.size 38 ((R k).rl * 2) (partFn (R k).to (R k).pb m) ∧ Below wA.heap.size wA wr) (fun i _ => (R k).rl - (intOf i).toNat)
          case atStart => exact ⟨0, Nat.zero_le _, rfl, HM0.out, (Below.refl _ _).alloc (Nat.le_refl _) _⟩
          case round =>
            obtain ⟨m, hm, rfl, hp, hb⟩ := hrel
            clear c1 hmk2
            by_cases hlt2 : m < (R k).rl
            · first
              | (exfalso; omega)
              | (obtain ⟨d1, d2⟩ := HA.out.cell m hlt2
                 have hslt : (R k).rb < w.heap.size := World.block_lt_of_cell? w _ d1
                 have e1 := kept_of_below hb _ _ (((HC.out.b.cell (p := ⟨(R k).rb, (R k).ro + m * 2, none⟩) hslt).trans d1))
                 have e2 := kept_of_below hb _ _ (((HC.out.b.cell (p := ⟨(R k).rb, (R k).ro + m * 2 + 1, none⟩) hslt).trans d2))
                 have q1 := hp.cell (i := m * 2) (by omega)
                 have q2 := hp.cell (i := m * 2 + 1) (by omega)
                 have f1 := hp.frozen (m * 2)
                 have f2 := hp.frozen (m * 2 + 1)
                 have n1 : ¬ (R k).rb = wA.heap.size := by omega
                 have n2 : ¬ wA.heap.size = (R k).rb := by omega
                 have HP : Hid (wr.rowIs wA.heap.size 38 ((R k).rl * 2) (partFn (R k).to (R k).pb m) ∧ Below wA.heap.size wA wr) := ⟨hp, hb⟩
                 clear hp hb d1 d2
                 go_wp2
                 go_region_held3 (fun w' => w'.cell? ⟨(R k).rb, (R k).ro + m * 2, none⟩ = some (.int .i64 ((R k).to m)) ∧ w'.cell? ⟨(R k).rb, (R k).ro + m * 2 + 1, none⟩ = some (.float .f64 ((R k).pb m))) (go_keep) (fail)
                 all_goals go_wp2
                 go_roundw
                 case rel => exact ⟨m + 1, by omega, by go_num, (part_step HP.out.1).drew, ((HP.out.2.setCell (by simp) _).setCell (by simp) _).drew⟩
                 case measure => simp [intOf]; omega)
            · obtain rfl : m = (R k).rl := by omega
              have hfin := HC.out.row HNE.out (Nat.le_refl _) hb (part_full hp)
              have HFIN : Hid _ := hfin
              have o1 := ((HC.out.out.of_block (hb.block _ hob)).cell hlt)
              have o2 := ((HC.out.out.of_block (hb.block _ hob)).frozen k)
              clear hfin hp hb
              go_wp2
              go_roundw
              case rel => exact ⟨k + 1, _, by omega, by go_num, HFIN.out⟩
              case measure => simp [intOf]; omega
    · obtain rfl : al = k := by omega
      have HF : Hid (AnsCopy w al R (.returned (.slice (some ⟨w.heap.size, 0, none⟩) al al)) wr) := ⟨_, _, B, rfl, hC.grid (fun j hj => (HG.out.rows j hj).nil), hC.b⟩
      go_wp2
      go_ret
      exact HF.out

end Go.Proofs.Qxb6632246a
