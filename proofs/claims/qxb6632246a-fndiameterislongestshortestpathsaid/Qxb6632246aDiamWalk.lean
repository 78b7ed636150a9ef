import Derived.Test.Qxb6632246aDiam
namespace Go.Proofs.Qxb6632246a
open Go.RowKit
attribute [local go_sem] run_store_float
attribute [local go_sem] Go.wp_at_zero Go.wp_at_succ

def AnsDiam (w : World) (R : Nat → RowG) (n : Nat) (e : Ending) (w' : World) : Prop := ∃ D : Nat, e = .returned (.int .i64 (D : Int)) ∧ IsDiam (Edge R) n D ∧ Below w.heap.size w w'

theorem AnsDiam.mk {w w' : World} {R : Nat → RowG} {n : Nat} {h : Nat → Int} {lg : Int} (hl : Long (Edge R) n [] h lg) (hb : Below w.heap.size w w') : AnsDiam w R n (.returned (.int .i64 lg)) w' :=
  ⟨lg.toNat, by rw [Int.toNat_of_nonneg hl.nn], hl.diam, hb⟩

set_option maxRecDepth 100000 in
set_option maxHeartbeats 3200000 in
theorem diam_any (nb : Nat) (na : Option Addr) (n nc : Nat) (la : Option Addr) (lb lo ln lc : Nat) (R : Nat → RowG) (w : World) (hn : n ≤ 1048576) (hnl : n ≤ ln) (hln : ln ≤ 1048576) (hsm : ∀ i, i < n → (R i).rl ≤ 1048576)
    (hd : ∀ i, i < n → ∀ c, c < (R i).rl → posB ((R i).pb c) = true → 0 ≤ (R i).to c ∧ (R i).to c < n)
    (c0 : w.cell? ⟨nb, 0, none⟩ = some (.slice na n nc)) (c1 : w.cell? ⟨nb, 1, none⟩ = some (.slice la ln lc)) (hg : GridAt w la lb lo ln R) :
    Calls Try.prog 9 #[.pointer (some ⟨nb, 0, none⟩)] w (AnsDiam w R n) := by
  have hmk := make39 n hn
  have hmq := make39q n hn
  have HG : Hid (GridAt w la lb lo ln R) := hg
  have HSM : Hid (∀ i, i < n → (R i).rl ≤ 1048576) := hsm
  have HD : Hid (∀ i, i < n → ∀ c, c < (R i).rl → posB ((R i).pb c) = true → 0 ≤ (R i).to c ∧ (R i).to c < n) := hd
  obtain ⟨i0, hi, hz0, hz1, hz2⟩ := info_parts i3
  have hnb := World.block_lt_of_cell? w _ c0
  have hm0 := mem_start w n (by unfold maxLen; omega)
  have q0 := (World.cell?_alloc_lt w (.cells (madeCells #[.int .i64 0] n) 3) ⟨nb, 0, none⟩ hnb).trans c0
  have q1 := kept_of_below (((Below.refl w.heap.size w).alloc (Nat.le_refl _) (.cells (madeCells #[.int .i64 0] n) 3)).alloc (by simp) (.cells (madeCells #[.int .i64 0] n) 3)) _ _ c0
  clear hg hsm hd
  go_enter Try.func9, Try.ntmps9
  go_wp2
  go_loopw [3, 5, 29] (fun l v i wr => ∃ (s : Nat) (lg : Int) (q : List Nat) (h : Nat → Int), s ≤ n ∧ i = .int .i64 s ∧ l = .int .i64 lg ∧ v = .slice (some ⟨w.heap.size + 1, 0, none⟩) q.length n ∧ Mem w wr n q h ∧ Long (Edge R) s [] (fun _ => 0) lg) (fun _ _ i _ => n - (intOf i).toNat)
  case atStart => exact ⟨0, 0, [], fun _ => 0, Nat.zero_le _, rfl, rfl, rfl, hm0, Long.zero _ _⟩
  case round =>
    clear hm0 q0 q1 hmk hmq
    obtain ⟨s, lg, q, h, hs, rfl, rfl, rfl, hM, hL⟩ := hrel
    by_cases hlt : s < n
    · have HL : Hid (Long (Edge R) s [] (fun _ => 0) lg) := hL
      clear hL
      go_wp2
      go_loopw [34] (fun i wr => ∃ (m : Nat), m ≤ n ∧ i = .int .i64 m ∧ Mem w wr n q (fun v => if v < m then -1 else h v)) (fun i _ => n - (intOf i).toNat)
      case atStart => exact ⟨0, Nat.zero_le _, rfl, hM.congr (fun v _ => by simp)⟩
      case round =>
        clear hM
        obtain ⟨m, hm, rfl, hM⟩ := hrel
        by_cases hlt2 : m < n
        · have e1 := hM.hops.cell hlt2
          have e2 := hM.hops.frozen m
          have HM : Hid (Mem w (_ : World) n q (fun v => if v < m + 1 then -1 else h v)) := (hM.set m (-1)).congr (fun v _ => by
            unfold upd
            by_cases a1 : v = m
            · subst a1; simp
            · by_cases a2 : v < m
              · have a3 : v < m + 1 := by omega
                simp [a1, a2, a3]
              · have a3 : ¬ v < m + 1 := by omega
                simp [a1, a2, a3])
          clear hM
          go_wp2
          go_roundw
          case rel => exact ⟨m + 1, by omega, by go_num, HM.out⟩
          case measure => simp [intOf]; omega
        · obtain rfl : n = m := by omega
          have hM1 : Mem w (_ : World) n q (upd (fun _ => -1) s 0) := (hM.set s 0).congr (fun v hv => by unfold upd; by_cases a1 : v = s <;> simp [a1, hv])
          have e1 := hM.hops.cell hlt
          have e2 := hM.hops.frozen s
          have HM1 : Hid (Mem w _ n q (upd (fun _ => -1) s 0)) := hM1
          clear hM hM1
          go_wp2_with (at_builtin; refine wpList_append_fits _ rfl _ _ 39 rfl (w.heap.size + 1) 3 i0 1 Try.underlying39 hi hz1 (w.heap.size + 1) 0 n [] rfl ((own_cut HM1.out.que).alloc _) ⟨_, 0, none⟩ 1 1 [.int .i64 (s : Int)] rfl rfl (one_new (by simp)) (one_cell _ _) (by omega) ?_; intro w3 hown3 hgr3)
          have hM3 := HM1.out.first hown3 hgr3
          clear hown3 hgr3 HM1
          go_wp2
          go_loopw [3, 5, 8] (fun l v i wr => ∃ (p : Nat) (lg : Int) (q : List Nat) (h : Nat → Int), p ≤ q.length ∧ i = .int .i64 p ∧ l = .int .i64 lg ∧ v = .slice (some ⟨w.heap.size + 1, 0, none⟩) q.length n ∧ Mem w wr n q h ∧
            Bfs (Edge R) n s q h ∧ Served (Edge R) q h p ∧ (p < q.length → Near q h (q.getD p 0)) ∧ Long (Edge R) s q h lg) (fun _ _ i _ => n - (intOf i).toNat)
          case atStart => exact ⟨0, lg, [s], _, Nat.zero_le _, rfl, rfl, rfl, hM3, Bfs.start _ hlt, fun i hi => by omega, fun _ v hv => by
            simp at hv; subst hv; simp [upd], HL.out.enter⟩
          case round =>
            clear hM3
            obtain ⟨p, lg, q, h, hp, rfl, rfl, rfl, hM, hB, hS, hN, hL⟩ := hrel
            have hql := hB.len
            by_cases hltp : p < q.length
            · have e1 := hM.qcell hltp
              obtain ⟨u, hu⟩ : ∃ u, q.getD p 0 = u := ⟨_, rfl⟩
              rw [hu] at e1
              have hmid : Mid R n s p u 0 q h lg := ⟨hB, hS, hltp, hu, hu ▸ hN hltp, hL, Part.zero _ _ _ _⟩
              have hun := hmid.ulen
              have c1w := kept_of_below hM.b _ _ c1
              have crow := kept_of_below hM.b _ _ (HG.out.cell u (by omega))
              have HA : Hid (ArcsAt w (R u)) := HG.out.rows u (by omega)
              obtain rfl : la = some ⟨lb, lo, none⟩ := HG.out.form.resolve_left (by omega)
              have hrl := HSM.out u hun.2.2.1
              have HMID : Hid (Mid R n s p u 0 q h lg) := hmid
              have HM : Hid (Mem w _ n q h) := hM
              have hulo : u < ln := by omega
              clear hM hB hS hN hL hu hmid
              rcases HA.out.form with hz | hz
              rotate_left
              rw [hz] at crow
              clear hz
              all_goals
                go_wp2
                go_loopw [3, 5, 67] (fun l v i wr => ∃ (m : Nat) (lg : Int) (q : List Nat) (h : Nat → Int), m ≤ (R u).rl ∧ i = .int .i64 m ∧ l = .int .i64 lg ∧ v = .slice (some ⟨w.heap.size + 1, 0, none⟩) q.length n ∧ Mem w wr n q h ∧ Mid R n s p u m q h lg) (fun _ _ i _ => (R u).rl - (intOf i).toNat)
                case atStart => exact ⟨0, lg, q, h, Nat.zero_le _, rfl, rfl, rfl, HM.out, HMID.out⟩
                case round =>
                  clear HM HMID e1 c1w crow
                  obtain ⟨m, lg, q, h, hm, rfl, rfl, rfl, hM, hI⟩ := hrel
                  by_cases hltm : m < (R u).rl
                  · first
                    | (exfalso; omega)
                    | (obtain ⟨d1, d2⟩ := HA.out.cell m hltm
                       have g1 := kept_of_below hM.b _ _ d1
                       have g2 := kept_of_below hM.b _ _ d2
                       cases hp : posB ((R u).pb m)
                       · have hp' : (FloatKind.f64.format.order ((R u).pb m) 0 == some Ordering.gt) = false := hp
                         have HX : Hid (Mid R n s p u (m + 1) q h lg) := hI.skip hp
                         have HM : Hid (∀ o, Mem w (World.alloc (_ : World) o) n q h) := fun o => hM.alloc o
                         clear hp hI hM d1 d2
                         go_wp2
                         go_roundw
                         case rel => exact ⟨m + 1, lg, q, h, by omega, by go_num, rfl, rfl, HM.out _, HX.out⟩
                         case measure => simp [intOf]; omega
                       · have hp' : (FloatKind.f64.format.order ((R u).pb m) 0 == some Ordering.gt) = true := hp
                         obtain ⟨v0, v1⟩ := HD.out u hun.2.2.1 m hltm hp
                         obtain ⟨v, hv⟩ := Int.eq_ofNat_of_zero_le v0
                         rw [hv] at g1 v1
                         have hvn : v < n := by omega
                         have hulen := hI.ulen
                         have r1 := (hM.hops.alloc (.cells #[.int .i64 (v : Int), .float .f64 ((R u).pb m)] 38)).cell hvn
                         have r2 := (hM.hops.alloc (.cells #[.int .i64 (v : Int), .float .f64 ((R u).pb m)] 38)).cell hulen.2.2.1
                         have r3 := (hM.hops.alloc (.cells #[.int .i64 (v : Int), .float .f64 ((R u).pb m)] 38)).frozen v
                         have hlt0 := hM.lt
                         by_cases ho : h v < 0
                         · have huv : ¬ u = v := fun e => by have := hulen.1; rw [e] at this; omega
                           have hvu : ¬ v = u := fun e => huv e.symm
                           have hX : Mid R n s p u (m + 1) (q ++ [v]) (upd h v (h u + 1)) (max lg (h u + 1)) := hI.new hltm hp hv hvn ho
                           have HX : Hid (Mid R n s p u (m + 1) (q ++ [v]) (upd h v (h u + 1)) (max lg (h u + 1))) := hX
                           have hlen2 := hX.bfs.len
                           simp at hlen2
                           have n1 : ¬ wr.heap.size = w.heap.size := by omega
                           have n2 : ¬ w.heap.size = wr.heap.size := by omega
                           have HM : Hid (Mem w ((wr.alloc (.cells #[.int .i64 (v : Int), .float .f64 ((R u).pb m)] 38)).setCell ⟨w.heap.size, v, none⟩ (.int .i64 (h u + 1))) n q (upd h v (h u + 1))) := (hM.alloc _).set v (h u + 1)
                           have hwr : IntKind.i64.wrap (h u + 1) = h u + 1 := by
                             rw [IntKind.wrap_i64]
                             have := hulen.1
                             have := hulen.2.1
                             omega
                           have k2 : ((wr.alloc (.cells #[.int .i64 (v : Int), .float .f64 ((R u).pb m)] 38)).setCell ⟨w.heap.size, v, none⟩ (.int .i64 (h u + 1))).drew.cell? ⟨w.heap.size, u, none⟩ = some (.int .i64 (h u)) := by
                             have := HM.out.hops.cell hulen.2.2.1
                             simpa [upd, huv] using this
                           clear hp hI hM d1 d2 hv v0 hX
                           go_wp2
                           go_region_held3 (fun w' => w'.cell? ⟨wr.heap.size, 0, none⟩ = some (.int .i64 (v : Int)) ∧ w'.cell? ⟨w.heap.size, u, none⟩ = some (.int .i64 (h u))) (go_keep) (fail)
                           by_cases hmx : lg < h u + 1
                           all_goals
                             go_wp2_with (at_builtin; refine wpList_append_fits _ rfl _ _ 39 rfl (w.heap.size + 1) 3 i0 1 Try.underlying39 hi hz1 (w.heap.size + 1) q.length n (qcells q) rfl (HM.out.que.alloc _).drew ⟨_, 0, none⟩ 1 1 [.int .i64 (v : Int)] rfl rfl (one_new_drew (by simp)) (one_cell _ _) (by omega) ?_; intro w3 hown3 hgr3)
                             have hM3 := HM.out.append hown3 (grown_drew hgr3)
                             clear hown3 hgr3 HM k2
                             go_wp2
                             go_roundw
                             case rel => exact ⟨m + 1, max lg (h u + 1), q ++ [v], _, by omega, by go_num, by congr 1; omega, by simp, hM3, HX.out⟩
                             case measure => simp [intOf]; omega
                         · have HX : Hid (Mid R n s p u (m + 1) q h lg) := hI.old hv hvn ho
                           have HM : Hid (∀ o, Mem w (World.alloc (_ : World) o) n q h) := fun o => hM.alloc o
                           clear hp hI hM d1 d2 hv v0
                           go_wp2
                           go_roundw
                           case rel => exact ⟨m + 1, lg, q, h, by omega, by go_num, rfl, rfl, HM.out _, HX.out⟩
                           case measure => simp [intOf]; omega)
                  · obtain rfl : m = (R u).rl := by omega
                    have hdn := hI.done
                    have hpl := hI.hp
                    have hql := hI.bfs.len
                    have HX : Hid (Bfs (Edge R) n s q h ∧ Served (Edge R) q h (p + 1) ∧ (p + 1 < q.length → Near q h (q.getD (p + 1) 0)) ∧ Long (Edge R) s q h lg) := ⟨hI.bfs, hdn.1, hdn.2, hI.long⟩
                    clear hI hdn
                    go_wp2
                    go_roundw
                    case rel => exact ⟨p + 1, lg, q, h, by omega, by go_num, rfl, rfl, hM, HX.out.1, HX.out.2.1, HX.out.2.2.1, HX.out.2.2.2⟩
                    case measure => simp [intOf]; omega
            · have HF : Hid (Long (Edge R) (s + 1) [] (fun _ => 0) lg) := by
                have e : p = q.length := by omega
                rw [e] at hS
                exact hL.leave hB hS _
              clear hB hS hN hL
              go_wp2
              go_roundw
              case rel => exact ⟨s + 1, lg, q, h, by omega, by go_num, rfl, rfl, hM, HF.out⟩
              case measure => simp [intOf]; omega
    · obtain rfl : n = s := by omega
      go_wp2
      go_ret
      exact AnsDiam.mk hL hM.b

end Go.Proofs.Qxb6632246a
