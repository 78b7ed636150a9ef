import Derived.Test.Qxb6631318aFmtWalks
namespace Go.Proofs.Qxb6631318aFmt
open Go.RowKit
attribute [local go_sem] Go.wp_at_zero Go.wp_at_succ

/-- The measure that was fed the first k. -/
def measOf (Z : Nat → Int) (k : Nat) : Nat → Value := meas ByteArray.empty k (psum Z k) (loOf Z k) (hiOf Z k)

theorem measOf_succ (Z : Nat → Int) (k : Nat) : meas ByteArray.empty ((k : Int) + 1) (psum Z k + Z k) (if (k : Int) = 0 ∨ Z k < loOf Z k then Z k else loOf Z k) (if (k : Int) = 0 ∨ hiOf Z k < Z k then Z k else hiOf Z k) = measOf Z (k + 1) := by
  have e1 : (((k + 1 : Nat)) : Int) = (k : Int) + 1 := by omega
  have e2 : ((k : Int) = 0) = (k = 0) := by simp
  unfold measOf
  rw [e1]
  simp only [e2]
  rfl

set_option maxHeartbeats 800000 in
theorem feed_any (a : Option Addr) (len cap : Nat) (Z : Nat → Int) (w : World) (hl : len ≤ 1048576) (h : IntsAt w a len Z) (hno : NoOv Z len) :
    Calls Tryf.prog 7 #[.slice a len cap] w fun e w' => e = .returned (.pointer (some ⟨w.heap.size, 0, none⟩)) ∧ w'.rowIs w.heap.size 32 5 (measOf Z len) ∧ Below w.heap.size w w' := by
  have HNO : Hid (NoOv Z len) := hno
  rcases h.1 with hcl | ⟨b, off, rfl, hc⟩
  all_goals
    clear h hno
    go_enter Tryf.func7, Tryf.ntmps7
    go_wp2_with (go_at_call 10; refine (new_any _).mono ?_; rintro e w1 ⟨rfl, hm1, hb1⟩)
    go_loopw [4] (fun i wr => ∃ k : Nat, k ≤ len ∧ i = .int .i64 k ∧ wr.rowIs w.heap.size 32 5 (measOf Z k) ∧ Below w.heap.size w wr) (fun i _ => len - (intOf i).toNat)
    case atStart => exact ⟨0, Nat.zero_le _, rfl, hm1, hb1⟩
    case round =>
      obtain ⟨k, hk, rfl, hm, hb⟩ := hrel
      by_cases hlt : k < len
      · first
        | (exfalso; omega)
        | (have c1 := (hb.cell (World.block_lt_of_cell? w _ (hc k hlt))).trans (hc k hlt)
           have hfit := HNO.out (k + 1) (by omega)
           have hf1 : -9223372036854775808 ≤ psum Z k + Z k := hfit.1
           have hf2 : psum Z k + Z k ≤ 9223372036854775807 := hfit.2
           clear hc hfit
           go_wp2_with (go_at_call 11; refine (add_any w.heap.size ByteArray.empty (k : Int) (psum Z k) (loOf Z k) (hiOf Z k) (Z k) _ hm (by omega) (by omega) hf1 hf2).mono ?_; rintro e w2 ⟨rfl, hm2, hb2⟩; rw [measOf_succ] at hm2)
           go_roundw
           case rel => exact ⟨k + 1, by omega, by go_num, hm2, hb.trans hb2⟩
           case measure => simp [intOf]; omega)
      · obtain rfl : len = k := by omega
        go_wp2
        go_ret
        exact ⟨rfl, hm, hb⟩

theorem fig_any (mb : Nat) (nm : ByteArray) (runs total lo hi : Int) (w : World) (h : w.rowIs mb 32 5 (meas nm runs total lo hi)) :
    Calls Tryf.prog 8 #[.pointer (some ⟨mb, 0, none⟩)] w fun e w' => e = .returned (.tuple #[.int .i64 runs, .int .i64 total, .int .i64 lo, .int .i64 hi]) ∧ Below w.heap.size w w' := by
  have c1 := h.cell (i := 1) (by omega)
  have c2 := h.cell (i := 2) (by omega)
  have c3 := h.cell (i := 3) (by omega)
  have c4 := h.cell (i := 4) (by omega)
  simp only [meas, if_true, Nat.succ_ne_zero, if_false, Nat.reduceEqDiff] at c1 c2 c3 c4
  clear h
  go_enter Tryf.func8, Tryf.ntmps8
  go_wp2
  go_region_held3 (fun w' => w'.cell? ⟨mb, 1, none⟩ = some (.int .i64 runs) ∧ w'.cell? ⟨mb, 2, none⟩ = some (.int .i64 total) ∧ w'.cell? ⟨mb, 3, none⟩ = some (.int .i64 lo) ∧ w'.cell? ⟨mb, 4, none⟩ = some (.int .i64 hi)) (go_keep) (fail)
  go_wp2
  exact bodyPost_ret (v := .tuple #[.int .i64 runs, .int .i64 total, .int .i64 lo, .int .i64 hi]) (by simp [results, Tryf.results8, go_sem]) rfl ⟨rfl, (Below.refl _ _).drew⟩

end Go.Proofs.Qxb6631318aFmt
