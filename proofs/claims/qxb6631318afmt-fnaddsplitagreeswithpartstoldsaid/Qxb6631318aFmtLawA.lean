import Derived.Test.Qxb6631318aFmtFeed
namespace Go.Proofs.Qxb6631318aFmt
open Go.RowKit

theorem loOf_lt {Z : Nat → Int} {k : Nat} (h : Z k < loOf Z k) : loOf Z (k + 1) = Z k := if_pos (Or.inr h)
theorem loOf_ge {Z : Nat → Int} {k : Nat} (hk : 1 ≤ k) (h : ¬ Z k < loOf Z k) : loOf Z (k + 1) = loOf Z k := if_neg (fun e => e.elim (fun e => by omega) h)
theorem hiOf_gt {Z : Nat → Int} {k : Nat} (h : hiOf Z k < Z k) : hiOf Z (k + 1) = Z k := if_pos (Or.inr h)
theorem hiOf_le {Z : Nat → Int} {k : Nat} (hk : 1 ≤ k) (h : ¬ hiOf Z k < Z k) : hiOf Z (k + 1) = hiOf Z k := if_neg (fun e => e.elim (fun e => by omega) h)

set_option maxHeartbeats 1600000 in
theorem lawA (a : Option Addr) (len cap : Nat) (Z : Nat → Int) (w : World) (hml : len ≤ maxLen) (h : IntsAt w a len Z) :
    Calls Tryf.prog 3 #[.slice a len cap] w fun e w' => e = .returned (.bool true) ∧ Below w.heap.size w w' := by
  go_enter Tryf.func3, Tryf.ntmps3
  go_wp2_with fail
  refine (bytes5_any a len cap _ hml).mono ?_
  rintro e w ⟨t, rfl, rfl, ht⟩
  cases t
  · go_wp2
    go_ret
    exact ⟨rfl, Below.refl _ _⟩
  have hl := ht rfl
  clear ht
  by_cases hl2 : (131072 : Int) < (len : Int)
  · go_wp2
    go_ret
    exact ⟨rfl, Below.refl _ _⟩
  go_wp2_with fail
  refine (noOv_any a len cap Z _ hl h).mono ?_
  rintro e w ⟨t, rfl, rfl, hno0⟩
  cases t
  · go_wp2
    go_ret
    exact ⟨rfl, Below.refl _ _⟩
  have hno : NoOv Z len := hno0 rfl
  clear hno0
  go_wp2_with fail
  refine (feed_any a len cap Z _ hl h hno).mono ?_
  rintro e w1 ⟨rfl, hm1, hb1⟩
  go_wp2_with fail
  refine (fig_any w.heap.size _ _ _ _ _ _ hm1).mono ?_
  rintro e w2 ⟨rfl, hb2⟩
  have hb : Below w.heap.size w w2 := hb1.trans (hb2.mono hb1.size)
  have HB : Hid (Below w.heap.size w w2) := hb
  have h2 := h.kept hb
  have HNO : Hid (NoOv Z len) := hno
  clear hb hb1 hb2 hm1 h hno hml
  rcases h2.1 with hcl | ⟨b, off, rfl, hc⟩
  · clear h2
    obtain rfl : len = 0 := by omega
    go_wp2
    refine wp_loop_rounds 1 ?_
    rw [rounds_succ]
    go_wp2
    go_ret
    exact ⟨rfl, HB.out⟩
  · clear h2
    go_wp2
    go_loop [8, 9] (fun t i => ∃ k : Nat, k ≤ len ∧ i = .int .i64 k ∧ t = .int .i64 (psum Z k)) (fun _ i => len - (intOf i).toNat)
    case atStart => exact ⟨0, Nat.zero_le _, rfl, rfl⟩
    case round =>
      obtain ⟨k, hk, rfl, rfl⟩ := hrel
      by_cases hlt : k < len
      · have c1 := hc k hlt
        have hfit := HNO.out (k + 1) (by omega)
        have hf1 : -9223372036854775808 ≤ psum Z k + Z k := hfit.1
        have hf2 : psum Z k + Z k ≤ 9223372036854775807 := hfit.2
        have HS : Hid (psum Z (k + 1) = psum Z k + Z k) := rfl
        clear hfit hc
        go_wp2
        go_round
        case rel => exact ⟨k + 1, by omega, by go_num, by rw [HS.out]⟩
        case measure => simp [intOf]; omega
      · obtain rfl : len = k := by omega
        by_cases hp : (0 : Int) < (len : Int)
        · have c0 := hc 0 (by omega)
          simp only [Nat.add_zero] at c0
          have HL : Hid (loOf Z 1 = Z 0) := if_pos (Or.inl rfl)
          have HH : Hid (hiOf Z 1 = Z 0) := if_pos (Or.inl rfl)
          go_wp2
          go_loop [10, 11, 12] (fun l u i => ∃ k : Nat, 1 ≤ k ∧ k ≤ len ∧ i = .int .i64 k ∧ l = .int .i64 (loOf Z k) ∧ u = .int .i64 (hiOf Z k)) (fun _ _ i => len - (intOf i).toNat)
          case atStart => exact ⟨1, Nat.le_refl _, by omega, rfl, by rw [HL.out], by rw [HH.out]⟩
          case round =>
            obtain ⟨k, hk0, hk, rfl, rfl, rfl⟩ := hrel
            by_cases hlt : k < len
            · have c1 := hc k hlt
              clear hc c0
              by_cases q1 : Z k < loOf Z k <;> by_cases q2 : hiOf Z k < Z k
              · have E1 : Hid (loOf Z (k + 1) = Z k) := loOf_lt q1
                have E2 : Hid (hiOf Z (k + 1) = Z k) := hiOf_gt q2
                go_wp2
                go_round
                case rel => exact ⟨k + 1, by omega, by omega, by go_num, by rw [E1.out], by rw [E2.out]⟩
                case measure => simp [intOf]; omega
              · have E1 : Hid (loOf Z (k + 1) = Z k) := loOf_lt q1
                have E2 : Hid (hiOf Z (k + 1) = hiOf Z k) := hiOf_le hk0 q2
                go_wp2
                go_round
                case rel => exact ⟨k + 1, by omega, by omega, by go_num, by rw [E1.out], by rw [E2.out]⟩
                case measure => simp [intOf]; omega
              · have E1 : Hid (loOf Z (k + 1) = loOf Z k) := loOf_ge hk0 q1
                have E2 : Hid (hiOf Z (k + 1) = Z k) := hiOf_gt q2
                go_wp2
                go_round
                case rel => exact ⟨k + 1, by omega, by omega, by go_num, by rw [E1.out], by rw [E2.out]⟩
                case measure => simp [intOf]; omega
              · have E1 : Hid (loOf Z (k + 1) = loOf Z k) := loOf_ge hk0 q1
                have E2 : Hid (hiOf Z (k + 1) = hiOf Z k) := hiOf_le hk0 q2
                go_wp2
                go_round
                case rel => exact ⟨k + 1, by omega, by omega, by go_num, by rw [E1.out], by rw [E2.out]⟩
                case measure => simp [intOf]; omega
            · obtain rfl : len = k := by omega
              go_wp2
              go_ret
              exact ⟨rfl, HB.out⟩
        · obtain rfl : len = 0 := by omega
          go_wp2
          go_ret
          exact ⟨rfl, HB.out⟩

end Go.Proofs.Qxb6631318aFmt
