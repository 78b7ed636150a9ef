import Derived.Test.Qxb6631318aFmtLawB
namespace Go.Proofs.Qxb6631318aFmt
open Go.RowKit

set_option maxHeartbeats 3200000 in
theorem lawB_b (b off n : Nat) (Z Y : Nat → Int) (w : World) (hml : n ≤ maxLen) (hn0 : 0 < n)
    (h : IntsAt w (some ⟨b, off, none⟩) n Z) (h1 : IntsAt w (some ⟨b, off, none⟩) n Z) (h2 : IntsAt w (some ⟨b, off, none⟩) 0 Y)
 :
    Calls Tryf.prog 4 #[.slice (some ⟨b, off, none⟩) n n, .int .i64 ((n : Nat) : Int)] w fun e w' => e = .returned (.bool true) ∧ Below w.heap.size w w' := by
  have hml2 : n ≤ maxLen := by omega
  go_enter Tryf.func4, Tryf.ntmps4
  go_wp2_with fail
  refine (bytes9_any _ n _ _ _ hml2).mono ?_
  rintro e w ⟨t, rfl, rfl, ht⟩
  cases t
  · go_wp2
    go_ret
    exact ⟨rfl, Below.refl _ _⟩
  have hl := ht rfl
  clear ht
  by_cases hl2 : (131072 : Int) < ((n : Nat) : Int) + 0
  · go_wp2
    go_ret
    exact ⟨rfl, Below.refl _ _⟩
  go_wp2_with fail
  refine (noOv_any _ n _ Z _ hl h).mono ?_
  rintro e w ⟨t, rfl, rfl, hno0⟩
  cases t
  · go_wp2
    go_ret
    exact ⟨rfl, Below.refl _ _⟩
  have hno : NoOv Z n := hno0 rfl
  have HNO : Hid (NoOv Z n) := hno
  clear hno0 hno
  go_wp2_with fail
  refine (noOv_any _ 0 _ Y _ (by omega) h2).mono ?_
  rintro e w ⟨t, rfl, rfl, hno0⟩
  cases t
  · go_wp2
    go_ret
    exact ⟨rfl, Below.refl _ _⟩
  have hno : NoOv Y 0 := hno0 rfl
  have HN2 : Hid (NoOv Y 0) := hno
  clear hno0 hno
  go_wp2_with fail
  refine (feed_any _ n _ Z _ hl h HNO.out).mono ?_
  rintro e w1 ⟨rfl, hm1, hb1⟩
  have h1w := h1.kept hb1
  go_wp2_with fail
  refine (feed_any _ n _ Z _ (by omega) h1w (HNO.out.le (by omega))).mono ?_
  rintro e w2 ⟨rfl, hm2, hb2⟩
  have hb12 : Below w.heap.size w w2 := hb1.trans (hb2.mono hb1.size)
  have h2w := h2.kept hb12
  go_wp2_with fail
  refine (feed_any _ 0 _ Y _ (by omega) h2w HN2.out).mono ?_
  rintro e w3 ⟨rfl, hm3, hb3⟩
  have hm1' := (hm1.of_block (hb2.block _ hm1.lt)).of_block (hb3.block _ (hm1.of_block (hb2.block _ hm1.lt)).lt)
  have hm2' := hm2.of_block (hb3.block _ hm2.lt)
  have hb123 : Below w.heap.size w w3 := hb12.trans (hb3.mono hb12.size)
  unfold measOf at hm1' hm2' hm3
  simp only [psum, loOf, hiOf] at hm3
  go_wp2_with fail
  refine (fig_any w.heap.size _ _ _ _ _ _ hm1').mono ?_
  rintro e w4 ⟨rfl, hb4⟩
  have hm2'' := hm2'.of_block (hb4.block _ hm2'.lt)
  have hm3' := hm3.of_block (hb4.block _ hm3.lt)
  go_wp2_with fail
  refine (fig_any w1.heap.size _ _ _ _ _ _ hm2'').mono ?_
  rintro e w5 ⟨rfl, hb5⟩
  have hm3'' := hm3'.of_block (hb5.block _ hm3'.lt)
  go_wp2_with fail
  refine (fig_any w2.heap.size _ _ _ _ _ _ hm3'').mono ?_
  rintro e w6 ⟨rfl, hb6⟩
  have hb : Below w.heap.size w w6 := ((hb123.trans (hb4.mono hb123.size)).trans (hb5.mono (Nat.le_trans hb123.size hb4.size))).trans (hb6.mono (Nat.le_trans (Nat.le_trans hb123.size hb4.size) hb5.size))
  have HB : Hid (Below w.heap.size w w6) := hb
  have h6 := h.kept hb
  have hfT := HNO.out n (Nat.le_refl _)
  have hft1 : -9223372036854775808 ≤ psum Z n := hfT.1
  have hft2 : psum Z n ≤ 9223372036854775807 := hfT.2
  clear hb hb1 hb2 hb3 hb4 hb5 hb6 hb12 hb123 hm1 hm2 hm3 hm1' hm2' hm2'' hm3' hm3'' h h1 h2 h1w h2w hfT HN2
  rcases h6.1 with hcl | ⟨b', off', hab, hc⟩
  rotate_left
  obtain ⟨rfl, rfl⟩ : b = b' ∧ off = off' := by simpa using hab
  clear hab
  all_goals
    clear h6
    go_wp2
    go_loop [20, 21] (fun t i => ∃ m : Nat, m ≤ n ∧ i = .int .i64 m ∧ t = .int .i64 (psum Z m)) (fun _ i => n - (intOf i).toNat)
    case atStart => exact ⟨0, Nat.zero_le _, rfl, rfl⟩
    case round =>
      obtain ⟨m, hm, rfl, rfl⟩ := hrel
      by_cases hlt : m < n
      · first
        | (exfalso; omega)
        | (have c1 := hc m hlt
           have hfit := HNO.out (m + 1) (by omega)
           have hf1 : -9223372036854775808 ≤ psum Z m + Z m := hfit.1
           have hf2 : psum Z m + Z m ≤ 9223372036854775807 := hfit.2
           have HSS : Hid (psum Z (m + 1) = psum Z m + Z m) := rfl
           clear hfit hc
           go_wp2
           go_round
           case rel => exact ⟨m + 1, by omega, by go_num, by rw [HSS.out]⟩
           case measure => simp [intOf]; omega)
      · obtain rfl : n = m := by omega
        have p1 : (((n : Nat) : Int) == 0) = false := by simp; omega
        clear HNO
        go_wp2
        go_ret
        exact ⟨rfl, HB.out⟩

set_option maxHeartbeats 1600000 in
theorem lawB_a (a : Option Addr) (w : World) :
    Calls Tryf.prog 4 #[.slice a 0 0, .int .i64 0] w fun e w' => e = .returned (.bool true) ∧ Below w.heap.size w w' := by
  have h : ∀ W : World, IntsAt W a 0 (fun _ => 0) := fun W => ⟨Or.inl (Nat.le_refl _), fun i hi => by omega⟩
  have H : Hid (∀ W : World, IntsAt W a 0 (fun _ => 0)) := h
  clear h
  go_enter Tryf.func4, Tryf.ntmps4
  go_wp2_with fail
  refine (bytes9_any _ 0 _ _ _ (Nat.zero_le _)).mono ?_
  rintro e w ⟨t, rfl, rfl, ht⟩
  cases t
  · go_wp2
    go_ret
    exact ⟨rfl, Below.refl _ _⟩
  clear ht
  go_wp2_with fail
  refine (noOv_any _ 0 _ (fun _ => 0) _ (by omega) (H.out _)).mono ?_
  rintro e w ⟨t, rfl, rfl, ht⟩
  clear ht
  cases t
  · go_wp2
    go_ret
    exact ⟨rfl, Below.refl _ _⟩
  go_wp2_with fail
  refine (noOv_any _ 0 _ (fun _ => 0) _ (by omega) (H.out _)).mono ?_
  rintro e w ⟨t, rfl, rfl, ht⟩
  clear ht
  cases t
  · go_wp2
    go_ret
    exact ⟨rfl, Below.refl _ _⟩
  go_wp2_with fail
  refine (feed_any _ 0 _ (fun _ => 0) _ (by omega) (H.out _) (NoOv.zero _)).mono ?_
  rintro e w1 ⟨rfl, hm1, hb1⟩
  go_wp2_with fail
  refine (feed_any _ 0 _ (fun _ => 0) _ (by omega) (H.out _) (NoOv.zero _)).mono ?_
  rintro e w2 ⟨rfl, hm2, hb2⟩
  go_wp2_with fail
  refine (feed_any _ 0 _ (fun _ => 0) _ (by omega) (H.out _) (NoOv.zero _)).mono ?_
  rintro e w3 ⟨rfl, hm3, hb3⟩
  have hb12 : Below w.heap.size w w2 := hb1.trans (hb2.mono hb1.size)
  have hm1' := (hm1.of_block (hb2.block _ hm1.lt)).of_block (hb3.block _ (hm1.of_block (hb2.block _ hm1.lt)).lt)
  have hm2' := hm2.of_block (hb3.block _ hm2.lt)
  have hb123 : Below w.heap.size w w3 := hb12.trans (hb3.mono hb12.size)
  simp only [measOf, psum, loOf, hiOf] at hm1' hm2' hm3
  go_wp2_with fail
  refine (fig_any w.heap.size _ _ _ _ _ _ hm1').mono ?_
  rintro e w4 ⟨rfl, hb4⟩
  have hm2'' := hm2'.of_block (hb4.block _ hm2'.lt)
  have hm3' := hm3.of_block (hb4.block _ hm3.lt)
  go_wp2_with fail
  refine (fig_any w1.heap.size _ _ _ _ _ _ hm2'').mono ?_
  rintro e w5 ⟨rfl, hb5⟩
  have hm3'' := hm3'.of_block (hb5.block _ hm3'.lt)
  go_wp2_with fail
  refine (fig_any w2.heap.size _ _ _ _ _ _ hm3'').mono ?_
  rintro e w6 ⟨rfl, hb6⟩
  have hb : Below w.heap.size w w6 := ((hb123.trans (hb4.mono hb123.size)).trans (hb5.mono (Nat.le_trans hb123.size hb4.size))).trans (hb6.mono (Nat.le_trans (Nat.le_trans hb123.size hb4.size) hb5.size))
  have HB : Hid (Below w.heap.size w w6) := hb
  clear hb hb1 hb2 hb3 hb4 hb5 hb6 hb12 hb123 hm1 hm2 hm3 hm1' hm2' hm2'' hm3' hm3''
  go_wp2
  refine wp_loop_rounds 1 ?_
  rw [rounds_succ]
  go_wp2
  go_ret
  exact ⟨rfl, HB.out⟩

end Go.Proofs.Qxb6631318aFmt
