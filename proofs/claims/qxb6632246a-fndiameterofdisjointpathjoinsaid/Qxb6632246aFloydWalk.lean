import Derived.Test.Qxb6632246aMat
namespace Go.Proofs.Qxb6632246a
open Go.RowKit
attribute [local go_sem] run_store_float

theorem idx {n i j N : Nat} (hn : n ≤ 256) (hN : N = n * n) (hi : i < n) (hj : j < n) : ∃ a t : Nat, (i : Int) * (n : Int) = (a : Int) ∧ (a : Int) + (j : Int) = (t : Int) ∧ t < N ∧ a ≤ 65536 ∧ t = i * n + j := by
  refine ⟨i * n, i * n + j, (Int.natCast_mul i n).symm, (Int.natCast_add _ _).symm, ?_, ?_, rfl⟩
  · rw [hN]; exact flat_lt hi hj
  · have h1 : i * n ≤ n * n := Nat.mul_le_mul_right n (by omega)
    have h2 : n * n ≤ 256 * 256 := Nat.mul_le_mul hn hn
    omega

set_option maxRecDepth 100000 in
set_option maxHeartbeats 6400000 in
theorem model_any (n : Nat) (aa : Option Addr) (ab ao al ac : Nat) (R : Nat → RowG) (w : World) (hn : n ≤ 256) (hal : al ≤ 1048576) (hsm : ∀ i, i < al → (R i).rl ≤ 1048576) (hd : Dom n al R) (hg : GridAt w aa ab ao al R) :
    Calls Try.prog 10 #[.int .i64 (n : Int), .slice aa al ac] w (AnsDiam w R n) := by
  obtain ⟨N, hN⟩ : ∃ N, N = n * n := ⟨_, rfl⟩
  have hNi : (n : Int) * (n : Int) = (N : Int) := by rw [hN]; exact (Int.natCast_mul n n).symm
  have hNb : N ≤ 65536 := by
    have : n * n ≤ 256 * 256 := Nat.mul_le_mul hn hn
    omega
  have hmk := make39 N (by omega)
  have hm0 := mat_start w n N hN
  have HN : Hid (N = n * n) := hN
  have HG : Hid (GridAt w aa ab ao al R) := hg
  have HSM : Hid (∀ i, i < al → (R i).rl ≤ 1048576) := hsm
  have HD : Hid (Dom n al R) := hd
  clear hN hg hsm hd
  go_enter Try.func10, Try.ntmps10
  go_wp2
  go_loopw [6] (fun i wr => ∃ i0 : Nat, i0 ≤ n ∧ i = .int .i64 i0 ∧ Mat w wr n N (fill i0 0)) (fun i _ => n - (intOf i).toNat)
  case atStart => exact ⟨0, Nat.zero_le _, rfl, hm0.congr (fun i j _ _ => by simp [fill])⟩
  case round =>
    clear hm0 hmk
    obtain ⟨i0, hi0, rfl, hM⟩ := hrel
    by_cases hlt : i0 < n
    · go_wp2
      go_loopw [7] (fun i wr => ∃ j0 : Nat, j0 ≤ n ∧ i = .int .i64 j0 ∧ Mat w wr n N (fill i0 j0)) (fun i _ => n - (intOf i).toNat)
      case atStart => exact ⟨0, Nat.zero_le _, rfl, hM⟩
      case round =>
        clear hM
        obtain ⟨j0, hj0, rfl, hM⟩ := hrel
        by_cases hlt2 : j0 < n
        · obtain ⟨a, t, e1, e2, e3, e4, e5⟩ := idx hn HN.out hlt hlt2
          by_cases hne : i0 = j0
          · have HM : Hid (Mat w (_ : World) n N (fill i0 (j0 + 1))) := hM.congr (fun i j _ _ => by rw [← hne]; exact fill_diag i0 i j)
            have hb : (((i0 : Int)) != (j0 : Int)) = false := by simp [hne]
            clear hM hne e5
            go_wp2
            go_roundw
            case rel => exact ⟨j0 + 1, by omega, by go_num, HM.out⟩
            case measure => simp [intOf]; omega
          · have HM : Hid (Mat w _ n N (fill i0 (j0 + 1))) := hM.set (x := 1048576) e5 hlt2 (fun i j _ _ => fill_set hne i j)
            have hb : (((i0 : Int)) != (j0 : Int)) = true := by simp; omega
            have c1 := hM.cell e5 hlt hlt2
            have c2 := hM.frozen t
            clear hM hne e5
            go_wp2
            go_roundw
            case rel => exact ⟨j0 + 1, by omega, by go_num, HM.out⟩
            case measure => simp [intOf]; omega
        · obtain rfl : n = j0 := by omega
          have HM : Hid (Mat w (_ : World) n N (fill (i0 + 1) 0)) := hM.congr (fun i j _ hj => fill_row hj)
          clear hM
          go_wp2
          go_roundw
          case rel => exact ⟨i0 + 1, by omega, by go_num, HM.out⟩
          case measure => simp [intOf]; omega
    · obtain rfl : n = i0 := by omega
      have hM2 : Mat w (_ : World) n N (ini R 0 0) := hM.congr (fun i j hi _ => ini_start hi)
      clear hM
      go_wp2
      go_loopw [8] (fun i wr => ∃ i0 : Nat, i0 ≤ n ∧ i = .int .i64 i0 ∧ Mat w wr n N (ini R i0 0)) (fun i _ => n - (intOf i).toNat)
      case atStart => exact ⟨0, Nat.zero_le _, rfl, hM2⟩
      case round =>
        clear hM2
        obtain ⟨i0, hi0, rfl, hM⟩ := hrel
        by_cases hlt : i0 < n
        · have hia : i0 < al := by have := HD.out.1; omega
          obtain rfl : aa = some ⟨ab, ao, none⟩ := HG.out.form.resolve_left (by omega)
          have c1 := kept_of_below hM.b _ _ (HG.out.cell i0 hia)
          have hrl := HSM.out i0 hia
          have HA : Hid (ArcsAt w (R i0)) := HG.out.rows i0 hia
          have HM : Hid (Mat w (_ : World) n N (ini R i0 0)) := hM
          clear hM
          rcases HA.out.form with hz | hz
          rotate_left
          rw [hz] at c1
          clear hz
          all_goals
            go_wp2
            go_loopw [10] (fun i wr => ∃ m : Nat, m ≤ (R i0).rl ∧ i = .int .i64 m ∧ Mat w wr n N (ini R i0 m)) (fun i _ => (R i0).rl - (intOf i).toNat)
            case atStart => exact ⟨0, Nat.zero_le _, rfl, HM.out⟩
            case round =>
              clear HM c1
              obtain ⟨m, hm, rfl, hM⟩ := hrel
              by_cases hltm : m < (R i0).rl
              · first
                | (exfalso; omega)
                | (obtain ⟨d1, d2⟩ := HA.out.cell m hltm
                   have g1 := kept_of_below hM.b _ _ d1
                   have g2 := kept_of_below hM.b _ _ d2
                   cases hp : posB ((R i0).pb m)
                   · have hp' : (FloatKind.f64.format.order ((R i0).pb m) 0 == some Ordering.gt) = false := hp
                     have HX : Hid (∀ o, Mat w (World.alloc (_ : World) o) n N (ini R i0 (m + 1))) := fun o => (hM.congr (fun i j _ _ => ini_skip (Or.inl hp) i j)).alloc o
                     clear hp hM d1 d2
                     go_wp2
                     go_roundw
                     case rel => exact ⟨m + 1, by omega, by go_num, HX.out _⟩
                     case measure => simp [intOf]; omega
                   · have hp' : (FloatKind.f64.format.order ((R i0).pb m) 0 == some Ordering.gt) = true := hp
                     obtain ⟨v0, v1⟩ := HD.out.2 i0 hlt m hltm hp
                     obtain ⟨v, hv⟩ := Int.eq_ofNat_of_zero_le v0
                     rw [hv] at g1 v1
                     have hvn : v < n := by omega
                     by_cases hne : v = i0
                     · have HX : Hid (∀ o, Mat w (World.alloc (_ : World) o) n N (ini R i0 (m + 1))) := fun o => (hM.congr (fun i j _ _ => ini_skip (Or.inr (by rw [hv, hne])) i j)).alloc o
                       have hb : (((v : Int)) != (i0 : Int)) = false := by simp [hne]
                       clear hp hM d1 d2 hv v0 hne
                       go_wp2
                       go_roundw
                       case rel => exact ⟨m + 1, by omega, by go_num, HX.out _⟩
                       case measure => simp [intOf]; omega
                     · obtain ⟨a, t, e1, e2, e3, e4, e5⟩ := idx hn HN.out hlt hvn
                       have hMA := hM.alloc (.cells #[.int .i64 (v : Int), .float .f64 ((R i0).pb m)] 37)
                       have HX : Hid (Mat w _ n N (ini R i0 (m + 1))) := hMA.set (x := 1) e5 hvn (fun i j _ _ => ini_set hp hv hne i j)
                       have hb : (((v : Int)) != (i0 : Int)) = true := by simp; omega
                       have r1 := hMA.cell e5 hlt hvn
                       have r2 := hMA.frozen t
                       clear hp hM hMA d1 d2 hv v0 hne e5
                       go_wp2
                       go_roundw
                       case rel => exact ⟨m + 1, by omega, by go_num, HX.out⟩
                       case measure => simp [intOf]; omega)
              · obtain rfl : m = (R i0).rl := by omega
                have HX : Hid (Mat w (_ : World) n N (ini R (i0 + 1) 0)) := hM.congr (fun i j _ _ => ini_row i j)
                clear hM
                go_wp2
                go_roundw
                case rel => exact ⟨i0 + 1, by omega, by go_num, HX.out⟩
                case measure => simp [intOf]; omega
        · obtain rfl : n = i0 := by omega
          have hI0 : Inv (Edge R) n 0 (ini R n 0) := ini_inv R n
          go_wp2
          go_loopw [12] (fun i wr => ∃ (k : Nat) (D : Nat → Nat → Int), k ≤ n ∧ i = .int .i64 k ∧ Mat w wr n N D ∧ Inv (Edge R) n k D) (fun i _ => n - (intOf i).toNat)
          case atStart => exact ⟨0, _, Nat.zero_le _, rfl, hM, hI0⟩
          case round =>
            clear hM hI0
            obtain ⟨k, D, hk, rfl, hM, hI⟩ := hrel
            by_cases hltk : k < n
            · have HI : Hid (Inv (Edge R) n k D) := hI
              clear hI
              have hM0 : Mat w (_ : World) n N (mix k D 0 0) := hM.congr (fun i j _ _ => (mix_zero k D i j).symm)
              clear hM
              go_wp2
              go_loopw [13] (fun i wr => ∃ (i0 : Nat), i0 ≤ n ∧ i = .int .i64 i0 ∧ Mat w wr n N (mix k D i0 0)) (fun i _ => n - (intOf i).toNat)
              case atStart => exact ⟨0, Nat.zero_le _, rfl, hM0⟩
              case round =>
                clear hM0
                obtain ⟨i0, hi0, rfl, hM⟩ := hrel
                by_cases hlti : i0 < n
                · obtain ⟨ai, tik, e1, e2, e3, e4, e5⟩ := idx hn HN.out hlti hltk
                  have c1 := hM.cell e5 hlti hltk
                  rw [mix_col] at c1
                  have hx := HI.out.nn i0 k hlti hltk
                  clear e5
                  by_cases hxi : (1048576 : Int) ≤ D i0 k
                  · have HX : Hid (Mat w (_ : World) n N (mix k D (i0 + 1) 0)) := hM.congr (fun i j _ _ => mix_skip (by show ¬ D i0 k < 1048576; omega) i j)
                    clear hM
                    go_wp2
                    go_roundw
                    case rel => exact ⟨i0 + 1, by omega, by go_num, HX.out⟩
                    case measure => simp [intOf]; omega
                  · have HMM : Hid (Mat w (_ : World) n N (mix k D i0 0)) := hM
                    clear hM
                    go_wp2
                    go_loopw [15] (fun i wr => ∃ (j0 : Nat), j0 ≤ n ∧ i = .int .i64 j0 ∧ Mat w wr n N (mix k D i0 j0)) (fun i _ => n - (intOf i).toNat)
                    case atStart => exact ⟨0, Nat.zero_le _, rfl, HMM.out⟩
                    case round =>
                      clear HMM c1
                      obtain ⟨j0, hj0, rfl, hM⟩ := hrel
                      by_cases hltj : j0 < n
                      · obtain ⟨ak, tkj, p1, p2, p3, p4, p5⟩ := idx hn HN.out hltk hltj
                        obtain ⟨ai', tij, q1, q2, q3, q4, q5⟩ := idx hn HN.out hlti hltj
                        obtain rfl : ai = ai' := by omega
                        have c2 := hM.cell p5 hltk hltj
                        rw [mix_row HI.out hltk hltj] at c2
                        have c3 := hM.cell q5 hlti hltj
                        rw [mix_here] at c3
                        have f3 := hM.frozen tij
                        have hy := HI.out.nn k j0 hltk hltj
                        have hzz := HI.out.nn i0 j0 hlti hltj
                        clear q1 p5
                        by_cases hyi : (1048576 : Int) ≤ D k j0
                        · have HX : Hid (Mat w (_ : World) n N (mix k D i0 (j0 + 1))) := hM.congr (fun i j _ _ => by
                            rw [← mix_set (x := D i0 j0) (by unfold fwStep; rw [if_neg (fun h => by have h2 : D k j0 < 1048576 := h.2.1; omega)]) i j]
                            by_cases ee : i = i0 ∧ j = j0
                            · rw [if_pos ee, ee.1, ee.2, mix_here]
                            · rw [if_neg ee])
                          clear hM q5
                          go_wp2
                          go_roundw
                          case rel => exact ⟨j0 + 1, by omega, by go_num, HX.out⟩
                          case measure => simp [intOf]; omega
                        · by_cases hs : D i0 k + D k j0 < D i0 j0
                          · have HX : Hid (Mat w _ n N (mix k D i0 (j0 + 1))) := hM.set (x := D i0 k + D k j0) q5 hltj (fun i j _ _ => mix_set (by
                              unfold fwStep
                              rw [if_pos ⟨by show D i0 k < 1048576; omega, by show D k j0 < 1048576; omega, hs⟩]) i j)
                            clear hM q5
                            go_wp2
                            go_roundw
                            case rel => exact ⟨j0 + 1, by omega, by go_num, HX.out⟩
                            case measure => simp [intOf]; omega
                          · have HX : Hid (Mat w (_ : World) n N (mix k D i0 (j0 + 1))) := hM.congr (fun i j _ _ => by
                              rw [← mix_set (x := D i0 j0) (by unfold fwStep; rw [if_neg (fun h => hs h.2.2)]) i j]
                              by_cases ee : i = i0 ∧ j = j0
                              · rw [if_pos ee, ee.1, ee.2, mix_here]
                              · rw [if_neg ee])
                            clear hM q5
                            go_wp2
                            go_roundw
                            case rel => exact ⟨j0 + 1, by omega, by go_num, HX.out⟩
                            case measure => simp [intOf]; omega
                      · obtain rfl : n = j0 := by omega
                        have HX : Hid (Mat w (_ : World) n N (mix k D (i0 + 1) 0)) := hM.congr (fun i j _ hj => mix_rowEnd hj)
                        clear hM
                        go_wp2
                        go_roundw
                        case rel => exact ⟨i0 + 1, by omega, by go_num, HX.out⟩
                        case measure => simp [intOf]; omega
                · obtain rfl : n = i0 := by omega
                  have HX : Hid (Mat w (_ : World) n N (fwStep k D)) := hM.congr (fun i j hi _ => mix_end hi)
                  have HI2 : Hid (Inv (Edge R) n (k + 1) (fwStep k D)) := HI.out.step hltk
                  clear hM
                  go_wp2
                  go_roundw
                  case rel => exact ⟨k + 1, _, by omega, by go_num, HX.out, HI2.out⟩
                  case measure => simp [intOf]; omega
            · obtain rfl : n = k := by omega
              have HI : Hid (Inv (Edge R) n n D) := hI
              have HM : Hid (Mat w (_ : World) n N D) := hM
              clear hI hM
              go_wp2
              obtain ⟨wA, hwA⟩ : ∃ wA, wA = wr := ⟨wr, rfl⟩
              subst hwA
              go_loop [17, 18] (fun b i => ∃ (x : Nat) (best : Int), x ≤ N ∧ i = .int .i64 x ∧ b = .int .i64 best ∧ Best n D x best) (fun _ i => N - (intOf i).toNat)
              case atStart => exact ⟨0, 0, Nat.zero_le _, rfl, rfl, Best.zero n D⟩
              case round =>
                obtain ⟨x, best, hx, rfl, rfl, hB⟩ := hrel
                by_cases hltx : x < N
                · have c1 := HM.out.row.cell hltx
                  simp only [cellsD] at c1
                  have HB : Hid (Best n D x best) := hB
                  obtain ⟨y, hy⟩ : ∃ y, D (x / n) (x % n) = y := ⟨_, rfl⟩
                  rw [hy] at c1
                  have HY : Hid (D (x / n) (x % n) = y) := hy
                  clear hB hy
                  by_cases h1 : y < 1048576
                  · by_cases h2 : best < y
                    · have HX : Hid (Best n D (x + 1) y) := by
                        have := HB.out.take (by rw [HY.out]; exact h1) (by rw [HY.out]; exact h2)
                        rwa [HY.out] at this
                      go_wp2
                      go_round
                      case rel => exact ⟨x + 1, _, by omega, by go_num, rfl, HX.out⟩
                      case measure => simp [intOf]; omega
                    · have HX : Hid (Best n D (x + 1) best) := HB.out.keep (by rw [HY.out]; exact fun h => h2 h.2)
                      go_wp2
                      go_round
                      case rel => exact ⟨x + 1, _, by omega, by go_num, rfl, HX.out⟩
                      case measure => simp [intOf]; omega
                  · have HX : Hid (Best n D (x + 1) best) := HB.out.keep (by rw [HY.out]; exact fun h => h1 h.1)
                    go_wp2
                    go_round
                    case rel => exact ⟨x + 1, _, by omega, by go_num, rfl, HX.out⟩
                    case measure => simp [intOf]; omega
                · have HF : Hid (AnsDiam w R n (.returned (.int .i64 best)) wA) := by
                    have e : x = n * n := by have := HN.out; omega
                    subst e
                    refine ⟨best.toNat, by rw [Int.toNat_of_nonneg hB.nn], best_diam ?_ (by omega) HI.out hB, HM.out.b⟩
                    rintro m j hm ⟨c, hc, hp, hto⟩
                    have := (HD.out.2 m hm c hc hp).2
                    omega
                  clear hB
                  go_wp2
                  go_ret
                  exact HF.out

end Go.Proofs.Qxb6632246a
