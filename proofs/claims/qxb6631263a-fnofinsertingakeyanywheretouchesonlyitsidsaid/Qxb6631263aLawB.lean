import Derived.Test.Qxb6631263aGrow
namespace Go.Proofs.Qxb6631263a
open Go.RowKit Go.Maps
attribute [local go_sem] Go.wp_at_zero Go.wp_at_succ

abbrev boxX (x : RowD) : Obj := .cells #[.string x.id, .slice x.ca x.cl x.cc, .int .i64 x.past] 34

/-- What holds from the check on: nothing old is written, the box of 'extra' stands at block B. -/
structure Base (w wr : World) (x : RowD) : Prop where
  b : Below w.heap.size w wr
  c0 : wr.cell? ⟨w.heap.size, 0, none⟩ = some (.string x.id)
  c1 : wr.cell? ⟨w.heap.size, 1, none⟩ = some (.slice x.ca x.cl x.cc)
  c2 : wr.cell? ⟨w.heap.size, 2, none⟩ = some (.int .i64 x.past)
  lt : w.heap.size < wr.heap.size

theorem base_start (w : World) (x : RowD) : Base w (w.alloc (boxX x)) x := ⟨(Below.refl _ _).alloc (Nat.le_refl _) _, by simp, by simp, by simp, by simp⟩
theorem Base.next {w wr w' : World} {x : RowD} (h : Base w wr x) (hb : Below wr.heap.size wr w') : Base w w' x :=
  ⟨h.b.trans (hb.mono (by have := h.lt; omega)), kept_of_below hb _ _ h.c0, kept_of_below hb _ _ h.c1, kept_of_below hb _ _ h.c2, Nat.lt_of_lt_of_le h.lt hb.size⟩
theorem Base.kept {w wr w' : World} {x : RowD} {B : Nat} (h : Base w wr x) (hB : w.heap.size < B) (hb : Below B wr w') : Base w w' x :=
  ⟨h.b.trans (hb.mono (by omega)), (hb.cell (p := ⟨_, 0, none⟩) hB).trans h.c0, (hb.cell (p := ⟨_, 1, none⟩) hB).trans h.c1, (hb.cell (p := ⟨_, 2, none⟩) hB).trans h.c2, Nat.lt_of_lt_of_le h.lt hb.size⟩

/-- While 'grown' is filled: its first k rows. -/
structure Fill (w w1 wr : World) (x : RowD) (g len k : Nat) (G : Nat → RowD) : Prop where
  own : wr.ownsRow g 34 3 (.slice (some ⟨g, 0, none⟩) k (len + 1)) k (gcells G k)
  base : Base w wr x
  b : Below g w1 wr
  lt : w.heap.size < g
  glt : g < wr.heap.size

theorem Fill.start {w w1 w2 : World} {x : RowD} {len : Nat} {G : Nat → RowD} (hB : Base w w1 x) (ho : w2.ownsRow w1.heap.size 34 3 (.slice (some ⟨w1.heap.size, 0, none⟩) 0 (len + 1)) 0 []) (hg : w1.grownBy w2 none) : Fill w w1 w2 x w1.heap.size len 0 G := by
  have hb : Below w1.heap.size w1 w2 := (Below.refl _ _).grown hg (Nat.le_refl _) (fun k hk => by cases hk)
  exact ⟨ho, hB.next hb, hb, hB.lt, (ho.lt _ rfl).2⟩

theorem Fill.step {w w1 wr w2 : World} {x : RowD} {g len k : Nat} {G : Nat → RowD} {r : RowD} (h : Fill w w1 wr x g len k G) (hr : G k = r) (ho : w2.ownsRow g 34 3 (.slice (some ⟨g, 0, none⟩) (k + 1) (len + 1)) (k + 1) (gcells G k ++ rowCells r)) {o : Obj} (hg : (wr.alloc o).grownBy w2 (some g)) :
    Fill w w1 w2 x g len (k + 1) G := by
  have h1 := h.glt
  have hb : Below g wr w2 := ((Below.refl g wr).alloc (by omega) o).grown hg (by simp; omega) (fun k hk => by cases hk; exact Nat.le_refl _)
  rw [gcells_snoc hr] at ho
  exact ⟨ho, h.base.kept h.lt hb, h.b.trans hb, h.lt, (ho.lt _ rfl).2⟩

theorem rowCells_at (w : World) (r : RowD) : ∀ j u, (rowCells r)[j]? = some u → (w.alloc (boxX r)).cell? ((⟨w.heap.size, 0, none⟩ : Addr).add j) = some u := by
  intro j u hj
  rw [Addr.add_lit, Nat.zero_add]
  match j, hj with
  | 0, hj => simp [rowCells] at hj; subst hj; simp
  | 1, hj => simp [rowCells] at hj; subst hj; simp
  | 2, hj => simp [rowCells] at hj; subst hj; simp
theorem rowCells_one (r : RowD) : ∀ u ∈ rowCells r, u.oneCell' = true := by
  intro u hu
  simp [rowCells] at hu
  rcases hu with rfl | rfl | rfl <;> rfl

def rowFn (r : RowD) : Nat → Value := fun t => if t = 0 then .string r.id else if t = 1 then .slice r.ca r.cl r.cc else .int .i64 r.past

/-- While 'want' is sought. -/
structure Want (w w5 wr : World) (x : RowD) (R : Nat → RowD) (j m : Nat) (r : RowD) : Prop where
  box : wr.rowIs w5.heap.size 34 3 (rowFn r)
  b : Below w5.heap.size w5 wr
  base : Base w wr x
  lkr : lk (ins R x j) (m + 1) x.id.data.toList = some (r.cfg, r.past)
  cfg : CfgAt w r
  small : r.cl ≤ 1048576

theorem Want.start {w w5 : World} {x : RowD} {R : Nat → RowD} {j : Nat} (hB : Base w w5 x) (hc : CfgAt w x) (hs : x.cl ≤ 1048576) : Want w w5 (w5.alloc (boxX x)) x R j j x := by
  refine ⟨World.rowIs_alloc w5 #[.string x.id, .slice x.ca x.cl x.cc, .int .i64 x.past] 34 (rowFn x) ?_, (Below.refl _ _).alloc (Nat.le_refl _) _, hB.next ((Below.refl _ _).alloc (Nat.le_refl _) _), lk_ins_at, hc, hs⟩
  intro i hi
  match i, hi with
  | 0, _ => simp [rowFn]
  | 1, _ => simp [rowFn]
  | 2, _ => simp [rowFn]

theorem Want.miss {w w5 wr : World} {x r : RowD} {R : Nat → RowD} {j m : Nat} (h : Want w w5 wr x R j m r) (hm : j ≤ m) (hne : ((R m).id.toList == x.id.toList) = false) : Want w w5 wr.drew x R j (m + 1) r :=
  ⟨h.box.drew, h.b.drew, ⟨h.base.b.drew, h.base.c0, h.base.c1, h.base.c2, h.base.lt⟩, (lk_ins_miss hm (fun e => by rw [id_eq.2 e] at hne; cases hne)).trans h.lkr, h.cfg, h.small⟩

theorem Want.hit {w w5 wr : World} {x r q : RowD} {R : Nat → RowD} {j m : Nat} (h : Want w w5 wr x R j m r) (hm : j ≤ m) (hw5 : w.heap.size < w5.heap.size) (he : ((R m).id.toList == x.id.toList) = true) (hq : R m = q) (hc : CfgAt w q) (hs : q.cl ≤ 1048576) :
    Want w w5 (((wr.setCell ⟨w5.heap.size, 0, none⟩ (.string q.id)).setCell ⟨w5.heap.size, 1, none⟩ (.slice q.ca q.cl q.cc)).setCell ⟨w5.heap.size, 2, none⟩ (.int .i64 q.past)).drew x R j (m + 1) q := by
  have hb : Below w5.heap.size wr (((wr.setCell ⟨w5.heap.size, 0, none⟩ (.string q.id)).setCell ⟨w5.heap.size, 1, none⟩ (.slice q.ca q.cl q.cc)).setCell ⟨w5.heap.size, 2, none⟩ (.int .i64 q.past)).drew :=
    ((((Below.refl _ _).setCell (by simp) _).setCell (by simp) _).setCell (by simp) _).drew
  refine ⟨?_, h.b.trans hb, h.base.kept hw5 hb, ?_, hc, hs⟩
  · refine ((((h.box.set 0 _).set 1 _).set 2 _).congr (fun i hi => ?_)).drew
    match i, hi with
    | 0, _ => simp [rowFn]
    | 1, _ => simp [rowFn]
    | 2, _ => simp [rowFn]
  · subst hq
    exact lk_ins_hit hm (id_eq.1 he)

set_option maxHeartbeats 1600000 in
theorem lawB_in (ab ao : Nat) (a : Option Addr) (len cap : Nat) (R : Nat → RowD) (x : RowD) (j : Nat) (id : ByteArray) (w : World) (hml : len ≤ maxLen) (hid : id.size ≤ maxLen) (hxi : x.id.size ≤ maxLen) (hxc : x.cl ≤ maxLen)
    (ha : len ≤ 0 ∨ a = some ⟨ab, ao, none⟩) (hra : ∀ i, i < len → w.cell? ⟨ab, ao + i * 3, none⟩ = some (.string (R i).id) ∧
      w.cell? ⟨ab, ao + i * 3 + 1, none⟩ = some (.slice (R i).ca (R i).cl (R i).cc) ∧ w.cell? ⟨ab, ao + i * 3 + 2, none⟩ = some (.int .i64 (R i).past))
    (h : RowsAt w a len R) (hx : CfgAt w x) (hj : j ≤ len) (hk : id.size ≤ 1048576) (hc3 : x.cl ≤ 131072) :
    Calls Try.prog 4 #[.slice a len cap, .agg #[.string x.id, .slice x.ca x.cl x.cc, .int .i64 x.past], .int .i64 (j : Int), .string id] w fun e w' => e = .returned (.bool true) ∧ Below w.heap.size w w' := by
  have hB := base_start w x
  have hh := h.kept (kept_of_below hB.b)
  obtain ⟨i0, hi, hz0, hz1, hz2⟩ := info_parts i34
  have HRA : Hid (∀ i, i < len → w.cell? ⟨ab, ao + i * 3, none⟩ = some (.string (R i).id) ∧
      w.cell? ⟨ab, ao + i * 3 + 1, none⟩ = some (.slice (R i).ca (R i).cl (R i).cc) ∧ w.cell? ⟨ab, ao + i * 3 + 2, none⟩ = some (.int .i64 (R i).past)) := hra
  have HAA : Hid (len ≤ 0 ∨ a = some ⟨ab, ao, none⟩) := ha
  clear hra ha
  go_enter Try.func4, Try.ntmps4
  go_wp2_with fail
  refine (bytes11_any a len cap R x j id _ hml hid hxi hxc hh).mono ?_
  rintro e w1 ⟨t, rfl, hb1, ht⟩
  have hB1 := hB.next hb1
  have hh1 := h.kept (kept_of_below hB1.b)
  clear hb1 hh hB
  have HB1 : Hid (Base w w1 x) := hB1
  cases t
  · clear hB1 ht hh1
    go_wp2
    go_ret
    exact ⟨rfl, HB1.out.b⟩
  obtain ⟨hl, hsm, hxcl, hxid⟩ := ht rfl
  clear ht
  have c0 := hB1.c0
  have c1 := hB1.c1
  have c2 := hB1.c2
  clear hB1
  go_wp2_with fail
  refine (tooBig_any a len cap R _ _ hl hh1).mono ?_
  rintro e w1 ⟨t, rfl, rfl⟩
  cases t
  case true =>
    clear hh1
    go_wp2
    go_ret
    exact ⟨rfl, HB1.out.b⟩
  go_wp2_with (first
    | (at_make; refine wpList_make_own _ rfl _ _ 22 rfl w1.heap.size 34 i0 _ 3 Try.underlying22 hi hz0 hz1 .i64 .i64 _ (len + 1) rfl rfl (by omega) (by rw [hz2]; omega) (by unfold maxLen; omega) (Nat.le_refl _) ?_; intro w2 hown2 hgr2))
  have hF := Fill.start (G := ins R x j) HB1.out hown2 hgr2
  clear hown2 hgr2 hh1 c0 c1 c2
  go_wp2
  generalize hg : w1.heap.size = g at *
  have HG : Hid (w1.heap.size = g) := hg
  clear hg
  go_loopw [9, 10] (fun v i wr => ∃ k : Nat, k ≤ j ∧ i = .int .i64 k ∧ v = .slice (some ⟨g, 0, none⟩) k (len + 1) ∧ Fill w w1 wr x g len k (ins R x j)) (fun _ i _ => j - (intOf i).toNat)
  case atStart => exact ⟨0, Nat.zero_le _, rfl, rfl, hF⟩
  case round =>
    clear hF
    obtain ⟨k, hk1, rfl, rfl, hF⟩ := hrel
    by_cases hlt : k < j
    · obtain rfl : a = some ⟨ab, ao, none⟩ := by
        rcases HAA.out with h1 | h1
        · omega
        · exact h1
      obtain ⟨d0, d1, d2⟩ := HRA.out k (by omega)
      have e0 := (hF.base.b.cell (World.block_lt_of_cell? w _ d0)).trans d0
      have e1 := (hF.base.b.cell (World.block_lt_of_cell? w _ d1)).trans d1
      have e2 := (hF.base.b.cell (World.block_lt_of_cell? w _ d2)).trans d2
      clear d0 d1 d2
      go_wp2_with (at_builtin; refine wpList_append_fits _ rfl _ _ 22 rfl g 34 i0 3 Try.underlying22 hi hz1 g k (len + 1) (gcells (ins R x j) k) rfl (hF.own.alloc _) ⟨wr.heap.size, 0, none⟩ 1 1 (rowCells (R k)) rfl rfl (rowCells_at _ _) (rowCells_one _) (by omega) ?_; intro w3 hown3 hgr3)
      have hF3 := hF.step (ins_lt hlt) hown3 hgr3
      clear hF hown3 hgr3 e0 e1 e2
      go_wp2
      go_roundw
      case rel => exact ⟨k + 1, by omega, by go_num, rfl, hF3⟩
      case measure => simp [intOf]; omega
    · obtain rfl : j = k := by omega
      have c0 := hF.base.c0
      have c1 := hF.base.c1
      have c2 := hF.base.c2
      go_wp2_with (at_builtin; refine wpList_append_fits _ rfl _ _ 22 rfl g 34 i0 3 Try.underlying22 hi hz1 g j (len + 1) (gcells (ins R x j) j) rfl (hF.own.alloc _) ⟨wr.heap.size, 0, none⟩ 1 1 (rowCells x) rfl rfl (rowCells_at _ _) (rowCells_one _) (by omega) ?_; intro w3 hown3 hgr3)
      have hF3 := hF.step ins_eq hown3 hgr3
      clear hF hown3 hgr3 c0 c1 c2
      go_wp2
      go_loopw [9, 11] (fun v i wr => ∃ m : Nat, j ≤ m ∧ m ≤ len ∧ i = .int .i64 m ∧ v = .slice (some ⟨g, 0, none⟩) (m + 1) (len + 1) ∧ Fill w w1 wr x g len (m + 1) (ins R x j)) (fun _ i _ => len - (intOf i).toNat)
      case atStart => exact ⟨j, Nat.le_refl _, hj, rfl, rfl, hF3⟩
      case round =>
        clear hF3
        obtain ⟨m, hm1, hm2, rfl, rfl, hF⟩ := hrel
        by_cases hlt2 : m < len
        · obtain rfl : a = some ⟨ab, ao, none⟩ := by
            rcases HAA.out with h1 | h1
            · omega
            · exact h1
          obtain ⟨d0, d1, d2⟩ := HRA.out m (by omega)
          have e0 := (hF.base.b.cell (World.block_lt_of_cell? w _ d0)).trans d0
          have e1 := (hF.base.b.cell (World.block_lt_of_cell? w _ d1)).trans d1
          have e2 := (hF.base.b.cell (World.block_lt_of_cell? w _ d2)).trans d2
          clear d0 d1 d2
          go_wp2_with (at_builtin; refine wpList_append_fits _ rfl _ _ 22 rfl g 34 i0 3 Try.underlying22 hi hz1 g (m + 1) (len + 1) (gcells (ins R x j) (m + 1)) rfl (hF.own.alloc _) ⟨_, 0, none⟩ 1 1 (rowCells (R m)) rfl rfl (rowCells_at _ _) (rowCells_one _) (by omega) ?_; intro w3 hown3 hgr3)
          have hF3 := hF.step (ins_gt hm1) hown3 hgr3
          clear hF hown3 hgr3 e0 e1 e2
          go_wp2
          go_roundw
          case rel => exact ⟨m + 1, by omega, by omega, by go_num, rfl, hF3⟩
          case measure => simp [intOf]; omega
        · obtain rfl : len = m := by omega
          obtain ⟨wB, hwB⟩ : ∃ wB, wB = wr := ⟨wr, rfl⟩
          subst hwB
          have hrw := h.kept (kept_of_below hF.base.b)
          have hgw := rows_of_own hF.own (ins_all hj (fun i hi => (h.2 i hi).kept (kept_of_below hF.base.b)) (hx.kept (kept_of_below hF.base.b)))
          have HGW : Hid (RowsAt wB (some ⟨g, 0, none⟩) (len + 1) (ins R x j)) := hgw
          clear hgw
          go_wp2_with fail
          refine (build_any a len cap R _ (by omega) hsm hrw).mono ?_
          rintro e w4 ⟨rfl, hs4, hb4⟩
          have HS4 : Hid (Served w4 (wB.heap.size + 1) wB.heap.size len (lk R len)) := hs4
          have hB4 := hF.base.next hb4
          have hg4 := HGW.out.kept (kept_of_below hb4)
          clear hs4 hrw HGW hF
          go_wp2_with fail
          refine (build_any (some ⟨g, 0, none⟩) (len + 1) (len + 1) (ins R x j) _ (by omega) (ins_all (p := fun r => r.cl ≤ 1048576 ∧ r.id.size ≤ 1048576) hj hsm ⟨hxcl, hxid⟩) hg4).mono ?_
          rintro e w5 ⟨rfl, hs5, hb5⟩
          have HS5 : Hid (Served w5 (w4.heap.size + 1) w4.heap.size (len + 1) (lk (ins R x j) (len + 1))) := hs5
          have HS4b : Hid (Served w5 (wB.heap.size + 1) wB.heap.size len (lk R len)) := HS4.out.below hb5
          have hB5 := hB4.next hb5
          have c0 := hB5.c0
          have c1 := hB5.c1
          have c2 := hB5.c2
          have HB5 : Hid (Base w w5 x) := hB5
          clear hs5 hg4 hb4 hb5 hB4 HS4 hB5
          have hW := Want.start (R := R) (j := j) HB5.out hx hxcl
          go_wp2
          go_loopw [15] (fun i wr => ∃ (m : Nat) (r : RowD), j ≤ m ∧ m ≤ len ∧ i = .int .i64 m ∧ Want w w5 wr x R j m r) (fun i _ => len - (intOf i).toNat)
          case atStart => exact ⟨j, x, Nat.le_refl _, hj, rfl, hW⟩
          case round =>
            clear hW c0 c1 c2
            obtain ⟨m, r, hm1, hm2, rfl, hW⟩ := hrel
            by_cases hlt2 : m < len
            · obtain rfl : a = some ⟨ab, ao, none⟩ := by
                rcases HAA.out with h1 | h1
                · omega
                · exact h1
              obtain ⟨d0, d1, d2⟩ := HRA.out m (by omega)
              have e0 := (hW.base.b.cell (World.block_lt_of_cell? w _ d0)).trans d0
              have e1 := (hW.base.b.cell (World.block_lt_of_cell? w _ d1)).trans d1
              have e2 := (hW.base.b.cell (World.block_lt_of_cell? w _ d2)).trans d2
              have x0 := hW.base.c0
              have hablt : ab < w.heap.size := World.block_lt_of_cell? w _ d0
              have hw5 := HB5.out.lt
              have hne1 : ¬ ab = w5.heap.size := by omega
              have hne2 : ¬ w5.heap.size = ab := by omega
              have b0 := hW.box.cell (i := 0) (by omega)
              have b1 := hW.box.cell (i := 1) (by omega)
              have b2 := hW.box.cell (i := 2) (by omega)
              have f0 := hW.box.frozen 0
              have f1 := hW.box.frozen 1
              have f2 := hW.box.frozen 2
              have hcm := h.2 m hlt2
              have hsmm := (hsm m hlt2).1
              have HW : Hid (Want w w5 _ x R j m r) := hW
              have HCM : Hid (CfgAt w (R m)) := hcm
              obtain ⟨q, hq⟩ : ∃ q, R m = q := ⟨_, rfl⟩
              rw [hq] at e0 e1 e2
              have HQ : Hid (R m = q) := hq
              clear d0 d1 d2 hW hcm hq
              go_wp2
              go_region_held3 (fun w' => w'.cell? ⟨ab, ao + m * 3, none⟩ = some (.string q.id) ∧ w'.cell? ⟨w.heap.size, 0, none⟩ = some (.string x.id)) (go_keep) (fail)
              go_wp2
              · go_roundw
                case rel => exact ⟨m + 1, q, by omega, by omega, by go_num, HW.out.hit hm1 hw5 (by rw [HQ.out]; assumption) HQ.out (HQ.out ▸ HCM.out) (HQ.out ▸ hsmm)⟩
                case measure => simp [intOf]; omega
              · go_roundw
                case rel => exact ⟨m + 1, r, by omega, by omega, by go_num, HW.out.miss hm1 (by rw [HQ.out]; assumption)⟩
                case measure => simp [intOf]; omega
            · obtain rfl : len = m := by omega
              have x0 := hW.base.c0
              have b0 := hW.box.cell (i := 0) (by omega)
              have b1 := hW.box.cell (i := 1) (by omega)
              have b2 := hW.box.cell (i := 2) (by omega)
              simp only [rowFn, if_true, Nat.succ_ne_zero, if_false, Nat.reduceEqDiff] at b0 b1 b2
              have HW : Hid (Want w w5 wr x R j len r) := hW
              have hrs := hW.small
              have HLN : Hid (r.cfg.length = r.cl) := hW.cfg.1
              clear hW
              have fin : ∀ w6 w7 : World, Below wr.drew.heap.size wr.drew w6 → Below w6.heap.size w6 w7 → Below w5.heap.size w5 w7 ∧ Base w w7 x := by
                intro w6 w7 h6 h7
                have g1 : Below w5.heap.size w5 w6 := HW.out.b.drew.trans (h6.mono HW.out.b.size)
                exact ⟨g1.trans (h7.mono g1.size), (HW.out.base.next ((Below.refl _ _).drew.trans h6)).next h7⟩
              have FIN : Hid (∀ w6 w7 : World, Below wr.drew.heap.size wr.drew w6 → Below w6.heap.size w6 w7 → Below w5.heap.size w5 w7 ∧ Base w w7 x) := fin
              clear fin
              cases hke : (id.toList == x.id.toList)
              case true =>
                go_wp2
                go_region_held3 (fun w' => w'.cell? ⟨w.heap.size, 0, none⟩ = some (.string x.id) ∧ w'.cell? ⟨w5.heap.size, 0, none⟩ = some (.string r.id) ∧ w'.cell? ⟨w5.heap.size, 1, none⟩ = some (.slice r.ca r.cl r.cc) ∧ w'.cell? ⟨w5.heap.size, 2, none⟩ = some (.int .i64 r.past))
                  (first
                    | go_keep
                    | (exact ⟨kept_of_below hb7 _ _ (kept_of_below hb6 _ _ x0), kept_of_below hb7 _ _ (kept_of_below hb6 _ _ b0), kept_of_below hb7 _ _ (kept_of_below hb6 _ _ b1), kept_of_below hb7 _ _ (kept_of_below hb6 _ _ b2)⟩)
                    | (exact ⟨kept_of_below hb6 _ _ x0, kept_of_below hb6 _ _ b0, kept_of_below hb6 _ _ b1, kept_of_below hb6 _ _ b2⟩))
                  ((first
                    | (go_at_call 9; refine (of_some _ _ _ _ x.id r.cfg r.past _ (HS5.out.below HW.out.b.drew) hxid HW.out.lkr).mono ?_; rintro e w6 ⟨nb, rfl, hn6, hl6, hb6⟩; rw [HLN.out] at hn6 ⊢)
                    | (go_at_call 12; refine (areRow_yes nb r.id r.ca r.cl r.cc r.cfg r.past _ hrs ((HW.out.cfg.kept (kept_of_below (HW.out.base.next ((Below.refl _ _).drew.trans hb6)).b)).form) hn6).mono ?_; rintro e w7 ⟨rfl, hb7⟩)))
                all_goals
                  have hX := FIN.out _ _ hb6 hb7
                  have xx0 := hX.2.c0
                  have HX : Hid (Below w.heap.size w w7) := hX.2.b
                  clear hX hb6 hb7 x0 b0 b1 b2
                  go_wp2
                  go_ret
                  exact ⟨rfl, HX.out⟩
              case false =>
                have hne : ¬ id.data.toList = x.id.data.toList := fun e => by rw [id_eq.2 e] at hke; cases hke
                have HLK : Hid (lk (ins R x j) (len + 1) id.data.toList = lk R len id.data.toList) := lk_ins hj hne
                have hvs : ∀ v, lk R len id.data.toList = some v → v.1.length ≤ 1048576 := fun v hv => lk_small len hsm (fun i hi => (h.2 i hi).1) hv
                have HVS : Hid (∀ v, lk R len id.data.toList = some v → v.1.length ≤ 1048576) := hvs
                clear hne hvs
                obtain ⟨o, ho⟩ : ∃ o, lk R len id.data.toList = o := ⟨_, rfl⟩
                have HO : Hid (lk R len id.data.toList = o) := ho
                clear ho
                go_wp2
                go_region_held3 (fun w' => w'.cell? ⟨w.heap.size, 0, none⟩ = some (.string x.id) ∧ w'.cell? ⟨w5.heap.size, 0, none⟩ = some (.string r.id) ∧ w'.cell? ⟨w5.heap.size, 1, none⟩ = some (.slice r.ca r.cl r.cc) ∧ w'.cell? ⟨w5.heap.size, 2, none⟩ = some (.int .i64 r.past))
                  (first
                    | go_keep
                    | (exact ⟨kept_of_below hb7 _ _ (kept_of_below hb6 _ _ x0), kept_of_below hb7 _ _ (kept_of_below hb6 _ _ b0), kept_of_below hb7 _ _ (kept_of_below hb6 _ _ b1), kept_of_below hb7 _ _ (kept_of_below hb6 _ _ b2)⟩)
                    | (exact ⟨kept_of_below hb6 _ _ x0, kept_of_below hb6 _ _ b0, kept_of_below hb6 _ _ b1, kept_of_below hb6 _ _ b2⟩))
                  ((first
                    | (go_at_call 9; refine (of_some _ _ _ _ x.id r.cfg r.past _ (HS5.out.below HW.out.b.drew) hxid HW.out.lkr).mono ?_; rintro e w6 ⟨nb, rfl, hn6, hl6, hb6⟩; rw [HLN.out] at hn6 ⊢)
                    | (go_at_call 12; refine (areRow_yes nb r.id r.ca r.cl r.cc r.cfg r.past _ hrs ((HW.out.cfg.kept (kept_of_below (HW.out.base.next ((Below.refl _ _).drew.trans hb6)).b)).form) hn6).mono ?_; rintro e w7 ⟨rfl, hb7⟩)))
                all_goals
                  have hX := FIN.out _ _ hb6 hb7
                  have xx0 := hX.2.c0
                  have HX : Hid (Below w5.heap.size w5 w7 ∧ Base w w7 x) := hX
                  clear hX hb6 hb7 x0 b0 b1 b2
                  go_wp2_with fail
                  cases o
                  case none =>
                    refine (of_none _ _ _ _ id _ (HS5.out.below HX.out.1) hk (HLK.out.trans HO.out)).mono ?_
                    rintro e w8 ⟨rfl, hb8⟩
                    go_wp2_with fail
                    refine (of_none _ _ _ _ id _ ((HS4b.out.below HX.out.1).below hb8) hk HO.out).mono ?_
                    rintro e w9 ⟨rfl, hb9⟩
                    go_wp2_with fail
                    refine (same_none _).mono ?_
                    rintro e w10 ⟨rfl, hb10⟩
                    have HY : Hid (Below w.heap.size w w10) := (((HX.out.2.next hb8).next hb9).next hb10).b
                    clear hb8 hb9 hb10
                    go_wp2
                    go_ret
                    exact ⟨rfl, HY.out⟩
                  case some v =>
                    obtain ⟨cfg, past⟩ := v
                    have hcl2 := HVS.out _ HO.out
                    simp only at hcl2
                    refine (of_some _ _ _ _ id cfg past _ (HS5.out.below HX.out.1) hk (HLK.out.trans HO.out)).mono ?_
                    rintro e w8 ⟨n8, rfl, hr8, hl8, hb8⟩
                    go_wp2_with fail
                    refine (of_some _ _ _ _ id cfg past _ ((HS4b.out.below HX.out.1).below hb8) hk HO.out).mono ?_
                    rintro e w9 ⟨n9, rfl, hr9, hl9, hb9⟩
                    have hr8b := hr8.of_block (hb9.block _ hr8.lt)
                    go_wp2_with fail
                    refine (same_some n8 n9 cfg.length cfg past _ hcl2 hr8b hr9).mono ?_
                    rintro e w10 ⟨rfl, hb10⟩
                    have HY : Hid (Below w.heap.size w w10) := (((HX.out.2.next hb8).next hb9).next hb10).b
                    clear hb8 hb9 hb10 hr8 hr9 hr8b
                    go_wp2
                    go_ret
                    exact ⟨rfl, HY.out⟩

end Go.Proofs.Qxb6631263a
