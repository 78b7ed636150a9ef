import Derived.Test.Qxb6631318aFmtLawA
namespace Go.Proofs.Qxb6631318aFmt
open Go.RowKit

theorem NoOv.le {Z : Nat → Int} {n m : Nat} (h : NoOv Z n) (hm : m ≤ n) : NoOv Z m := fun k hk => h k (by omega)

/-- How the whole's least and greatest come of the parts'. -/
def Cases (k tl : Nat) (lo1 hi1 lo2 hi2 LO HI : Int) : Prop :=
  (k = 0 ∧ tl = 0 ∧ LO = 0 ∧ HI = 0) ∨ (k = 0 ∧ 0 < tl ∧ LO = lo2 ∧ HI = hi2) ∨ (0 < k ∧ tl = 0 ∧ LO = lo1 ∧ HI = hi1) ∨
  (0 < k ∧ 0 < tl ∧ LO = (if lo2 < lo1 then lo2 else lo1) ∧ HI = (if hi1 < hi2 then hi2 else hi1))

set_option maxHeartbeats 3200000 in
theorem lawB_c (b off cap k tl : Nat) (Z Y : Nat → Int) (LO HI : Int) (w : World) (hml : k + tl ≤ cap) (hcm : cap ≤ maxLen) (hne : ¬ cap = k)
    (h : IntsAt w (some ⟨b, off, none⟩) (k + tl) Z) (h1 : IntsAt w (some ⟨b, off, none⟩) k Z) (h2 : IntsAt w (some ⟨b, off + k, none⟩) tl Y)
    (hS : psum Z (k + tl) = psum Z k + psum Y tl)
    (hE : measOf Z (k + tl) = meas ByteArray.empty (((k : Nat) : Int) + ((tl : Nat) : Int)) (psum Z k + psum Y tl) LO HI)
    (hcase : Cases k tl (loOf Z k) (hiOf Z k) (loOf Y tl) (hiOf Y tl) LO HI) :
    Calls Tryf.prog 4 #[.slice (some ⟨b, off, none⟩) (k + tl) cap, .int .i64 ((k : Nat) : Int)] w fun e w' => e = .returned (.bool true) ∧ Below w.heap.size w w' := by
  have HE : Hid (measOf Z (k + tl) = meas ByteArray.empty (((k : Nat) : Int) + ((tl : Nat) : Int)) (psum Z k + psum Y tl) LO HI) := hE
  have HS : Hid (psum Z (k + tl) = psum Z k + psum Y tl) := hS
  have HC : Hid (Cases k tl (loOf Z k) (hiOf Z k) (loOf Y tl) (hiOf Y tl) LO HI) := hcase
  clear hE hS hcase
  have hml2 : k + tl ≤ maxLen := by omega
  go_enter Tryf.func4, Tryf.ntmps4
  go_wp2_with fail
  refine (bytes9_any _ (k + tl) _ _ _ hml2).mono ?_
  rintro e w ⟨t, rfl, rfl, ht⟩
  cases t
  · go_wp2
    go_ret
    exact ⟨rfl, Below.refl _ _⟩
  have hl := ht rfl
  clear ht
  by_cases hl2 : (131072 : Int) < ((k : Nat) : Int) + ((tl : Nat) : Int)
  · go_wp2
    go_ret
    exact ⟨rfl, Below.refl _ _⟩
  go_wp2_with fail
  refine (noOv_any _ (k + tl) _ Z _ hl h).mono ?_
  rintro e w ⟨t, rfl, rfl, hno0⟩
  cases t
  · go_wp2
    go_ret
    exact ⟨rfl, Below.refl _ _⟩
  have hno : NoOv Z (k + tl) := hno0 rfl
  have HNO : Hid (NoOv Z (k + tl)) := hno
  clear hno0 hno
  go_wp2_with fail
  refine (noOv_any _ tl _ Y _ (by omega) h2).mono ?_
  rintro e w ⟨t, rfl, rfl, hno0⟩
  cases t
  · go_wp2
    go_ret
    exact ⟨rfl, Below.refl _ _⟩
  have hno : NoOv Y tl := hno0 rfl
  have HN2 : Hid (NoOv Y tl) := hno
  clear hno0 hno
  go_wp2_with fail
  refine (feed_any _ (k + tl) _ Z _ hl h HNO.out).mono ?_
  rintro e w1 ⟨rfl, hm1, hb1⟩
  rw [HE.out] at hm1
  have h1w := h1.kept hb1
  go_wp2_with fail
  refine (feed_any _ k _ Z _ (by omega) h1w (HNO.out.le (by omega))).mono ?_
  rintro e w2 ⟨rfl, hm2, hb2⟩
  have hb12 : Below w.heap.size w w2 := hb1.trans (hb2.mono hb1.size)
  have h2w := h2.kept hb12
  go_wp2_with fail
  refine (feed_any _ tl _ Y _ (by omega) h2w HN2.out).mono ?_
  rintro e w3 ⟨rfl, hm3, hb3⟩
  have hm1' := (hm1.of_block (hb2.block _ hm1.lt)).of_block (hb3.block _ (hm1.of_block (hb2.block _ hm1.lt)).lt)
  have hm2' := hm2.of_block (hb3.block _ hm2.lt)
  have hb123 : Below w.heap.size w w3 := hb12.trans (hb3.mono hb12.size)
  unfold measOf at hm2' hm3
  go_wp2_with fail
  refine (fig_any w.heap.size _ _ _ _ _ _ hm1').mono ?_
  rintro e w4 ⟨rfl, hb4⟩
  have hm2'' := hm2'.of_block (hb4.block _ hm2'.lt)
  have hm3' := hm3.of_block (hb4.block _ hm3.lt)
  go_wp2_with fail
  refine (fig_any w1.heap.size _ _ _ _ _ _ hm2'').mono ?_
  rintro e w5 ⟨rfl, hb5⟩
  have hm3'' := hm3'.of_block (hb5.block _ hm3'.lt)
  go_wp2_with fail
  refine (fig_any w2.heap.size _ _ _ _ _ _ hm3'').mono ?_
  rintro e w6 ⟨rfl, hb6⟩
  have hb : Below w.heap.size w w6 := ((hb123.trans (hb4.mono hb123.size)).trans (hb5.mono (Nat.le_trans hb123.size hb4.size))).trans (hb6.mono (Nat.le_trans (Nat.le_trans hb123.size hb4.size) hb5.size))
  have HB : Hid (Below w.heap.size w w6) := hb
  have h6 := h.kept hb
  have hfT := HNO.out (k + tl) (Nat.le_refl _)
  rw [HS.out] at hfT
  have hft1 : -9223372036854775808 ≤ psum Z k + psum Y tl := hfT.1
  have hft2 : psum Z k + psum Y tl ≤ 9223372036854775807 := hfT.2
  clear hb hb1 hb2 hb3 hb4 hb5 hb6 hb12 hb123 hm1 hm2 hm3 hm1' hm2' hm2'' hm3' hm3'' h h1 h2 h1w h2w hfT HE HN2
  generalize loOf Z k = lo1 at *
  generalize hiOf Z k = hi1 at *
  generalize loOf Y tl = lo2 at *
  generalize hiOf Y tl = hi2 at *
  rcases h6.1 with hcl | ⟨b', off', hab, hc⟩
  rotate_left
  obtain ⟨rfl, rfl⟩ : b = b' ∧ off = off' := by simpa using hab
  clear hab
  all_goals
    clear h6
    go_wp2
    go_loop [20, 21] (fun t i => ∃ m : Nat, m ≤ k + tl ∧ i = .int .i64 m ∧ t = .int .i64 (psum Z m)) (fun _ i => (k + tl) - (intOf i).toNat)
    case atStart => exact ⟨0, Nat.zero_le _, rfl, rfl⟩
    case round =>
      obtain ⟨m, hm, rfl, rfl⟩ := hrel
      by_cases hlt : m < k + tl
      · first
        | (exfalso; omega)
        | (have c1 := hc m hlt
           have hfit := HNO.out (m + 1) (by omega)
           have hf1 : -9223372036854775808 ≤ psum Z m + Z m := hfit.1
           have hf2 : psum Z m + Z m ≤ 9223372036854775807 := hfit.2
           have HSS : Hid (psum Z (m + 1) = psum Z m + Z m) := rfl
           clear hfit hc
           go_wp2
           go_round
           case rel => exact ⟨m + 1, by omega, by go_num, by rw [HSS.out]⟩
           case measure => simp [intOf]; omega)
      · obtain rfl : m = k + tl := by omega
        rw [HS.out]
        generalize psum Z k = t1 at *
        generalize psum Y tl = t2 at *
        rcases HC.out with ⟨e1, e2, e3, e4⟩ | ⟨e1, e2, e3, e4⟩ | ⟨e1, e2, e3, e4⟩ | ⟨e1, e2, e3, e4⟩
        · have p1 : (((k : Nat) : Int) == 0) = true := by simp [e1]
          have p2 : (((tl : Nat) : Int) == 0) = true := by simp [e2]
          clear e1 e2
          subst e3 e4
          clear HC HS HNO
          go_wp2
          go_ret
          exact ⟨rfl, HB.out⟩
        · have p1 : (((k : Nat) : Int) == 0) = true := by simp [e1]
          have p2 : (((tl : Nat) : Int) == 0) = false := by simp; omega
          clear e1 e2
          subst e3 e4
          clear HC HS HNO
          go_wp2
          go_ret
          exact ⟨rfl, HB.out⟩
        · have p1 : (((k : Nat) : Int) == 0) = false := by simp; omega
          have p2 : (((tl : Nat) : Int) == 0) = true := by simp [e2]
          clear e1 e2
          subst e3 e4
          clear HC HS HNO
          go_wp2
          go_ret
          exact ⟨rfl, HB.out⟩
        · have p1 : (((k : Nat) : Int) == 0) = false := by simp; omega
          have p2 : (((tl : Nat) : Int) == 0) = false := by simp; omega
          by_cases q1 : lo2 < lo1 <;> by_cases q2 : hi1 < hi2
          all_goals
            simp only [q1, q2, if_true, if_false] at e3 e4
            subst e3 e4
            clear HC HS HNO e1 e2
            go_wp2
            go_ret
            exact ⟨rfl, HB.out⟩

end Go.Proofs.Qxb6631318aFmt
