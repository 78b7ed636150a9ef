import Derived.Test.Qxb6632246aJoin
namespace Go.Proofs.Qxb6632246a
open Go.RowKit
attribute [local go_sem] run_store_float
attribute [local go_sem] Go.wp_at_zero Go.wp_at_succ

set_option maxRecDepth 100000 in
set_option maxHeartbeats 6400000 in
theorem join_any (na : Option Addr) (xb no nl nc : Nat) (S : Nat → ByteArray) (aa : Option Addr) (ab ao al ac : Nat) (R : Nat → RowG) (mz : Int) (fr : Bool) (w : World) (hnl : nl ≤ maxLen) (hal : al ≤ maxLen) (hnil : aa = none → al = 0) (hn : NamesAt w na xb no nl S) (hg : GridAt w aa ab ao al R) :
    Calls Try.prog 4 #[.slice na nl nc, .slice aa al ac, .int .i64 mz, .bool fr] w fun e w' => e = .returned (.bool true) ∧ Below w.heap.size w w' := by
  have HNIL : Hid (aa = none → al = 0) := hnil
  clear hnil
  go_enter Try.func4, Try.ntmps4
  go_wp2_with fail
  refine (bytes11_any na xb no nl nc S aa ab ao al ac R mz fr _ hnl hal hn hg).mono ?_
  rintro e w ⟨t, rfl, rfl, ht⟩
  cases t
  · go_wp2
    go_ret
    exact ⟨rfl, Below.refl _ _⟩
  have hsm : SmallG nl al R := ht rfl
  clear ht
  go_wp2_with fail
  refine (over6_any na xb no nl nc S aa ab ao al ac R _ hsm hn hg).mono ?_
  rintro e w ⟨t, rfl, rfl⟩
  cases t
  case true =>
    go_wp2
    go_ret
    exact ⟨rfl, Below.refl _ _⟩
  by_cases h256 : (256 : Int) < (nl : Int)
  · go_wp2
    go_ret
    exact ⟨rfl, Below.refl _ _⟩
  by_cases hm0 : mz < 0
  · go_wp2
    go_ret
    exact ⟨rfl, Below.refl _ _⟩
  obtain ⟨m, rfl⟩ := Int.eq_ofNat_of_zero_le (by omega : 0 ≤ mz)
  by_cases hm1 : (256 : Int) < (m : Int)
  · go_wp2
    go_ret
    exact ⟨rfl, Below.refl _ _⟩
  go_wp2_with fail
  refine (dom7_any na nl nc aa ab ao al ac R _ hsm hg).mono ?_
  rintro e w1 ⟨t, rfl, hb1, hd⟩
  cases t
  · clear hd
    have HB1 : Hid (Below w.heap.size w w1) := hb1
    clear hb1
    go_wp2
    go_ret
    exact ⟨rfl, HB1.out⟩
  have hdom : Dom nl al R := hd rfl
  clear hd
  have HG : Hid (GridAt w1 aa ab ao al R) := hg.kept (kept_of_below hb1)
  have HN : Hid (NamesAt w1 na xb no nl S) := hn.kept (kept_of_below hb1)
  have HSM : Hid (SmallG nl al R) := hsm
  have HD : Hid (Dom nl al R) := hdom
  have HB1 : Hid (Below w.heap.size w w1) := hb1
  have hnla : nl ≤ al := hdom.1
  have hal2 : al ≤ 1048576 := hsm.2.1
  clear hg hn hsm hdom hb1
  obtain ⟨tot, htot⟩ : ∃ tot : Nat, (nl : Int) + (m : Int) + 1 = (tot : Int) := ⟨nl + m + 1, by omega⟩
  have hmk1 := make22 tot (by omega)
  have hmk2 := make26 tot (by omega)
  go_upto_if 54 with (fail)
  go_cut [11, 12] (fun v11 v12 wc => ∃ nb pb : Nat, v11 = .int .i64 (nb : Int) ∧ v12 = .int .i64 (pb : Int) ∧ Base nl m nb pb ∧ wc = w1)
  case first =>
    cases fr
    · go_wp2
      go_meet
      case rel => exact ⟨0, nl, rfl, rfl, Or.inl ⟨rfl, rfl⟩, rfl⟩
    · go_wp2
      go_meet
      case rel => exact ⟨m + 1, 0, by go_num, rfl, Or.inr ⟨rfl, rfl⟩, rfl⟩
  case rest =>
    obtain ⟨nb, pb, rfl, rfl, hbase, rfl⟩ := hcut
    have HBASE : Hid (Base nl m nb pb) := hbase
    have hnb : nb + nl ≤ tot := by rcases hbase with h | h <;> omega
    have hpb : pb + m < tot := by rcases hbase with h | h <;> omega
    clear hbase
    have HJ0 : Hid _ := js_start wc R nb nl tot (fun _ => 0)
    go_wp2
    go_loopw [15] (fun v wr => ∃ (i : Nat) (B : Nat → Nat), i ≤ nl ∧ v = .int .i64 i ∧ JS wc wr R nb nl tot (isN nb i) B) (fun v _ => nl - (intOf v).toNat)
    case atStart => exact ⟨0, _, Nat.zero_le _, rfl, HJ0.out.congr (fun y hy => by simp [isN])⟩
    case round =>
      clear HJ0 hmk1 hmk2
      obtain ⟨i, B, hi, rfl, hJ⟩ := hrel
      by_cases hlt : i < nl
      · obtain ⟨y, hy, e1⟩ : ∃ y : Nat, y = nb + i ∧ (nb : Int) + (i : Int) = (y : Int) := ⟨_, rfl, by omega⟩
        have hyt : y < tot := by omega
        obtain rfl : na = some ⟨xb, no, none⟩ := HN.out.form.resolve_left (by omega)
        obtain rfl : aa = some ⟨ab, ao, none⟩ := HG.out.form.resolve_left (by omega)
        have hia : i < al := by omega
        have c1 := kept_of_below hJ.b _ _ (HN.out.cell i hlt)
        obtain ⟨F, hF⟩ := hJ.nm
        have c2 := hF.cell hyt
        have c3 := hF.frozen y
        have HJ1 : Hid _ := hJ.name y (S i)
        have HY : Hid (y = nb + i) := hy
        clear hJ hF hy
        go_upto_region 24 with (fail)
        have hJ := HJ1.out
        clear HJ1 c1 c2 c3
        generalize hw2 : World.setCell wr ⟨wc.heap.size, y, none⟩ (.string (S i)) = w2 at hJ ⊢
        clear hw2 F
        have c1 := kept_of_below hJ.b _ _ (HG.out.cell i hia)
        have hrl := HSM.out.2.2 i hia
        have hmk := make34 (R i).rl hrl
        have HA : Hid (ArcsAt wc (R i)) := HG.out.rows i hia
        have HJ : Hid (JS wc w2 R nb nl tot (isN nb i) B) := hJ
        have hob := hJ.out.lt
        have HM0 : Hid _ := made2 w2 (fun c => wrap64 ((R i).to c + (nb : Int))) (R i).pb (R i).rl
        clear hJ
        rcases HA.out.form with hz | hz
        rotate_left
        rw [hz] at c1
        clear hz
        all_goals
          go_wp2
          go_loopw [18] (fun v wr => ∃ c : Nat, c ≤ (R i).rl ∧ v = .int .i64 c ∧ wr.rowIs w2.heap.size 38 ((R i).rl * 2) (partFn (fun c => wrap64 ((R i).to c + (nb : Int))) (R i).pb c) ∧ Below w2.heap.size w2 wr) (fun v _ => (R i).rl - (intOf v).toNat)
          case atStart => exact ⟨0, Nat.zero_le _, rfl, HM0.out, (Below.refl _ _).alloc (Nat.le_refl _) _⟩
          case round =>
            clear HM0 hmk c1
            obtain ⟨c, hc, rfl, hp, hb⟩ := hrel
            by_cases hlt2 : c < (R i).rl
            · first
              | (exfalso; omega)
              | (obtain ⟨d1, d2⟩ := HA.out.cell c hlt2
                 have hslt : (R i).rb < wc.heap.size := World.block_lt_of_cell? wc _ d1
                 have g1 := kept_of_below hb _ _ (((HJ.out.b.cell (p := ⟨(R i).rb, (R i).ro + c * 2, none⟩) hslt).trans d1))
                 have g2 := kept_of_below hb _ _ (((HJ.out.b.cell (p := ⟨(R i).rb, (R i).ro + c * 2 + 1, none⟩) hslt).trans d2))
                 have q1 := hp.cell (i := c * 2) (by omega)
                 have q2 := hp.cell (i := c * 2 + 1) (by omega)
                 have f1 := hp.frozen (c * 2)
                 have f2 := hp.frozen (c * 2 + 1)
                 have n1 : ¬ (R i).rb = w2.heap.size := by omega
                 have n2 : ¬ w2.heap.size = (R i).rb := by omega
                 have HP : Hid (wr.rowIs w2.heap.size 38 ((R i).rl * 2) (partFn (fun c => wrap64 ((R i).to c + (nb : Int))) (R i).pb c) ∧ Below w2.heap.size w2 wr) := ⟨hp, hb⟩
                 clear hp hb d1 d2
                 go_wp2
                 go_region_held3 (fun w' => w'.cell? ⟨(R i).rb, (R i).ro + c * 2, none⟩ = some (.int .i64 ((R i).to c)) ∧ w'.cell? ⟨(R i).rb, (R i).ro + c * 2 + 1, none⟩ = some (.float .f64 ((R i).pb c))) (go_keep) (fail)
                 all_goals go_wp2
                 go_roundw
                 case rel => exact ⟨c + 1, by omega, by go_num, (part_step HP.out.1).drew, ((HP.out.2.setCell (by simp) _).setCell (by simp) _).drew⟩
                 case measure => simp [intOf]; omega)
            · obtain rfl : c = (R i).rl := by omega
              have l1 : lenJ R nb nl y = (R i).rl := by rw [HY.out]; exact lenJ_node hlt
              have l2 : toJ R nb nl y = fun c => wrap64 ((R i).to c + (nb : Int)) := by rw [HY.out]; exact toJ_node hlt
              have l3 : pbJ R nb nl y = (R i).pb := by rw [HY.out]; exact pbJ_node hlt
              have hfin := HJ.out.row (y := y) (Nat.le_refl _) hb (by rw [l1, l2, l3]; exact part_full hp)
              rw [l1] at hfin
              have HFIN : Hid _ := hfin
              have o1 := ((HJ.out.out.of_block (hb.block _ hob)).cell hyt)
              have o2 := ((HJ.out.out.of_block (hb.block _ hob)).frozen y)
              clear hfin hp hb l1 l2 l3
              go_wp2
              go_roundw
              case rel => exact ⟨i + 1, _, by omega, by go_num, HFIN.out.congr (fun z hz => by
                have h1 := HY.out
                by_cases e : z = y
                · subst e; simp [isN]; omega
                · simp only [isN, e, if_false, decide_eq_decide]; omega)⟩
              case measure => simp [intOf]; omega
      · obtain rfl : nl = i := by omega
        have HJ : Hid (JS wc wr R nb nl tot (isN nb nl) B) := hJ
        clear hJ
        go_wp2
        go_loopw [19] (fun v wr => ∃ (t : Nat) (B : Nat → Nat), t ≤ m ∧ v = .int .i64 t ∧ JS wc wr R nb nl tot (fun y => isN nb nl y || isN pb t y) B) (fun v _ => m - (intOf v).toNat)
        case atStart => exact ⟨0, _, Nat.zero_le _, rfl, HJ.out.congr (fun y hy => by
          have h1 : isN pb 0 y = false := by simp [isN]
          simp [h1])⟩
        case round =>
          clear HJ
          obtain ⟨t, B, ht, rfl, hJ⟩ := hrel
          by_cases hlt2 : t < m
          · obtain ⟨y, hy, e1⟩ : ∃ y : Nat, y = pb + t ∧ (pb : Int) + (t : Int) = (y : Int) := ⟨_, rfl, by omega⟩
            have hyt : y < tot := by omega
            have hN : isN nb nl y = false := by
              simp [isN]
              rcases HBASE.out with h | h <;> omega
            have hbA : Below wr.heap.size wr (wr.alloc (.cells #[.int .i64 ((y : Int) + 1), .float .f64 4607182418800017408] 38)) := (Below.refl _ _).alloc (Nat.le_refl _) _
            have l1 : lenJ R nb nl y = 1 := lenJ_path hN
            have hfin := hJ.row (y := y) (Nat.le_refl _) hbA (by
              rw [l1, toJ_path hN, pbJ_path hN]
              refine World.rowIs_alloc wr _ 38 _ (fun i hi => ?_)
              rcases (show i = 0 ∨ i = 1 from by simp at hi; omega) with rfl | rfl <;> rfl)
            have hob := hJ.out.lt
            rw [l1, World.setCell_alloc_past _ _ _ _ hob] at hfin
            have HFIN : Hid _ := hfin
            have HY : Hid (y = pb + t) := hy
            have o1 := (hJ.out.of_block (hbA.block _ hob)).cell hyt
            have o2 := (hJ.out.of_block (hbA.block _ hob)).frozen y
            clear hfin hJ hbA hy l1 hN
            go_wp2
            go_roundw
            case rel => exact ⟨t + 1, _, by omega, by go_num, HFIN.out.congr (fun z hz => by
              have h1 := HY.out
              by_cases e : z = y
              · subst e
                have h2 : isN pb (t + 1) z = true := by simp [isN]; omega
                simp [h2]
              · have h2 : isN pb (t + 1) z = isN pb t z := by simp only [isN, decide_eq_decide]; omega
                simp only [e, if_false, h2])⟩
            case measure => simp [intOf]; omega
          · obtain rfl : m = t := by omega
            have htE : tot = nl + m + 1 := by omega
            have hgJ := (hJ.congr (D' := allJ nl m nb pb) (fun y hy => by
              simp only [allJ, isN, ← Bool.decide_or])).grid
            have hbJ := hJ.b
            have hn256 : nl ≤ 256 := by omega
            have hm256 : m ≤ 256 := by omega
            have HT : Hid (tot = nl + m + 1 ∧ nl ≤ 256 ∧ m ≤ 256) := ⟨htE, hn256, hm256⟩
            have hgW := HG.out.kept (kept_of_below hbJ)
            have H1 : Hid (GridAt wr (some ⟨wc.heap.size + 1, 0, none⟩) (wc.heap.size + 1) 0 tot (rowJ R nb nl (allJ nl m nb pb) B) ∧ Below wc.heap.size wc wr ∧ GridAt wr aa ab ao al R) := ⟨hgJ, hbJ, hgW⟩
            clear hJ htE hn256 hm256 hgJ hbJ hgW
            go_wp2_with fail
            refine (copy_any aa ab ao al ac R _ hal2 HNIL.out HSM.out.2.2 H1.out.2.2).mono ?_
            rintro e w2 ⟨la, lb, BL, rfl, hgL, hb2⟩
            obtain ⟨hgJ, hbJ, hgW⟩ := H1.out
            have H2 : Hid (GridAt w2 (some ⟨wc.heap.size + 1, 0, none⟩) (wc.heap.size + 1) 0 tot (rowJ R nb nl (allJ nl m nb pb) B) ∧ Below wc.heap.size wc w2 ∧ GridAt w2 la lb 0 al (fun j => copyRow (R j) (BL j))) :=
              ⟨hgJ.kept (kept_of_below hb2), hbJ.trans (hb2.mono hbJ.size), hgL⟩
            clear hgJ hbJ hgW hb2 hgL H1
            go_wp2_with fail
            have hbB : Below w2.heap.size w2 ((w2.alloc (netBox na nl nc la al al)).alloc (netBox (some ⟨wc.heap.size, 0, none⟩) tot tot (some ⟨wc.heap.size + 1, 0, none⟩) tot tot)) :=
              ((Below.refl _ _).alloc (Nat.le_refl _) _).alloc (by simp) _
            have k0 : ((w2.alloc (netBox na nl nc la al al)).alloc (netBox (some ⟨wc.heap.size, 0, none⟩) tot tot (some ⟨wc.heap.size + 1, 0, none⟩) tot tot)).cell? ⟨w2.heap.size + 1, 0, none⟩ = some (.slice (some ⟨wc.heap.size, 0, none⟩) tot tot) := by simp
            have k1 : ((w2.alloc (netBox na nl nc la al al)).alloc (netBox (some ⟨wc.heap.size, 0, none⟩) tot tot (some ⟨wc.heap.size + 1, 0, none⟩) tot tot)).cell? ⟨w2.heap.size + 1, 1, none⟩ = some (.slice (some ⟨wc.heap.size + 1, 0, none⟩) tot tot) := by simp
            obtain ⟨hgJ, hbJ, hgL⟩ := H2.out
            refine (diam_any w2.heap.size na nl nc la lb 0 al al (fun j => copyRow (R j) (BL j)) _ (by omega) hnla hal2 (fun i hi => HSM.out.2.2 i (by omega)) HD.out.2 (by simp) (by simp) (hgL.kept (kept_of_below hbB))).mono ?_
            rintro e w3 ⟨D, rfl, hD, hb3⟩
            have hD0 : IsDiam (Edge R) nl D := hD
            have hgJ3 := (hgJ.kept (kept_of_below hbB)).kept (kept_of_below hb3)
            have k03 := kept_of_below hb3 _ _ k0
            have k13 := kept_of_below hb3 _ _ k1
            have hbj2 := hbJ.trans (hbB.mono hbJ.size)
            have hb03 := hbj2.trans (hb3.mono hbj2.size)
            have H3 : Hid (IsDiam (Edge R) nl D ∧ GridAt w3 (some ⟨wc.heap.size + 1, 0, none⟩) (wc.heap.size + 1) 0 tot (rowJ R nb nl (allJ nl m nb pb) B) ∧ w3.cell? ⟨w2.heap.size + 1, 0, none⟩ = some (.slice (some ⟨wc.heap.size, 0, none⟩) tot tot) ∧ w3.cell? ⟨w2.heap.size + 1, 1, none⟩ = some (.slice (some ⟨wc.heap.size + 1, 0, none⟩) tot tot) ∧ Below wc.heap.size wc w3) := ⟨hD0, hgJ3, k03, k13, hb03⟩
            clear hbB k0 k1 hgJ hbJ hgL hD hb3 hD0 hgJ3 k03 k13 hbj2 hb03 H2
            go_wp2_with fail
            obtain ⟨hD0, hgJ3, k03, k13, hb03⟩ := H3.out
            obtain ⟨htE, hn256, hm256⟩ := HT.out
            refine (diam_any (w2.heap.size + 1) (some ⟨wc.heap.size, 0, none⟩) tot tot (some ⟨wc.heap.size + 1, 0, none⟩) (wc.heap.size + 1) 0 tot tot (rowJ R nb nl (allJ nl m nb pb) B) _ (by omega) (Nat.le_refl _) (by omega) (fun i _ => smallJ hnla HSM.out.2.2 i)
              (by rw [htE]; exact domJ HD.out hn256 hm256 HBASE.out) k03 k13 hgJ3).mono ?_
            rintro e w4 ⟨E, rfl, hE, hb4⟩
            have hDE : E = max D m := by
              rw [htE] at hE
              exact IsDiam.unique hE ((joined_of HD.out hn256 hm256 HBASE.out).diam hD0)
            have HF : Hid (Below w.heap.size w w4) := (HB1.out.trans (hb03.mono HB1.out.size)).trans (hb4.mono (HB1.out.trans (hb03.mono HB1.out.size)).size)
            clear hD0 hgJ3 k03 k13 hb03 hE hb4 htE hn256 hm256 H3
            by_cases hmd : (D : Int) < (m : Int)
            · obtain rfl : E = m := by omega
              clear hDE
              go_wp2
              go_ret
              exact ⟨rfl, HF.out⟩
            · obtain rfl : E = D := by omega
              clear hDE
              go_wp2
              go_ret
              exact ⟨rfl, HF.out⟩

end Go.Proofs.Qxb6632246a
