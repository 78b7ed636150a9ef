import Derived.Test.Qxb6631263aRowsAt
namespace Go.Proofs.Qxb6631263a
open Go.RowKit

/-- What a row fits: the lengths are small. -/
def Small (len : Nat) (R : Nat → RowD) : Prop := ∀ i, i < len → (R i).cl ≤ 1048576 ∧ (R i).id.size ≤ 1048576

def AnsFit (w : World) (len : Nat) (R : Nat → RowD) (e : Ending) (w' : World) : Prop := ∃ t : Bool, e = .returned (.bool t) ∧ w' = w ∧ (t = true → len ≤ 1048576 ∧ Small len R)
theorem AnsFit.no (w : World) (len : Nat) (R : Nat → RowD) : AnsFit w len R (.returned (.bool false)) w := ⟨false, rfl, rfl, fun h => by cases h⟩
theorem AnsFit.yes (w : World) (len : Nat) (R : Nat → RowD) (h1 : len ≤ 1048576) (h : Small len R) : AnsFit w len R (.returned (.bool true)) w := ⟨true, rfl, rfl, fun _ => ⟨h1, h⟩⟩
theorem Small.zero (R : Nat → RowD) : Small 0 R := fun i h => by omega
theorem Small.succ {k : Nat} {R : Nat → RowD} (h : Small k R) (h1 : (R k).cl ≤ 1048576) (h2 : (R k).id.size ≤ 1048576) : Small (k + 1) R := fun i hi => by
  by_cases e : i = k
  · subst e; exact ⟨h1, h2⟩
  · exact h i (by omega)

theorem bytes5_any (a : Option Addr) (len cap : Nat) (R : Nat → RowD) (id : ByteArray) (w : World) (hml : len ≤ maxLen) (hid : id.size ≤ maxLen) (h : RowsAt w a len R) :
    Calls Try.prog 5 #[.slice a len cap, .string id] w (AnsFit w len R) := by
  unfold maxLen at hml hid
  by_cases hs : (1048576 : Int) < (len : Int)
  · go_enter Try.func5, Try.ntmps5
    go_wp2
    go_ret
    exact AnsFit.no w len R
  by_cases h0 : 0 < len
  · obtain ⟨b, off, rfl, hc⟩ := h.1 h0
    clear h
    go_enter Try.func5, Try.ntmps5
    go_wp2
    go_loop [5, 6] (fun t i => ∃ (k : Nat) (n : Int), k ≤ len ∧ i = .int .i64 k ∧ t = .int .i64 n ∧ n ≤ 1048576 ∧ 0 ≤ n ∧ Small k R) (fun _ i => len - (intOf i).toNat)
    case atStart => exact ⟨0, len, Nat.zero_le _, rfl, rfl, by omega, by omega, Small.zero R⟩
    case round =>
      obtain ⟨k, n, hk, rfl, rfl, hn, hn0, hsm⟩ := hrel
      by_cases hlt : k < len
      · have h1 := (hc k hlt).1
        have h2 := (hc k hlt).2.1
        clear hc
        by_cases c1 : (1048576 : Int) < ((R k).id.size : Int)
        · go_wp2
          go_ret
          exact AnsFit.no w len R
        by_cases c2 : (1048576 : Int) < n + ((R k).id.size : Int)
        · go_wp2
          go_ret
          exact AnsFit.no w len R
        by_cases c3 : (1048576 : Int) < ((R k).cl : Int)
        · go_wp2
          go_ret
          exact AnsFit.no w len R
        by_cases c4 : (1048576 : Int) < n + ((R k).id.size : Int) + ((R k).cl : Int)
        · go_wp2
          go_ret
          exact AnsFit.no w len R
        go_wp2
        go_round
        case rel => exact ⟨k + 1, _, by omega, by go_num, rfl, by omega, by omega, hsm.succ (by omega) (by omega)⟩
        case measure => simp [intOf]; omega
      · obtain rfl : k = len := by omega
        by_cases c1 : (1048576 : Int) < (id.size : Int)
        · go_wp2
          go_ret
          exact AnsFit.no w k R
        by_cases c2 : (1048576 : Int) < n + (id.size : Int)
        · go_wp2
          go_ret
          exact AnsFit.no w k R
        go_wp2
        go_ret
        exact AnsFit.yes w k R (by omega) hsm
  · obtain rfl : len = 0 := by omega
    go_enter Try.func5, Try.ntmps5
    go_wp2
    refine wp_loop_rounds 1 ?_
    rw [rounds_succ]
    go_wp2
    · go_ret
      exact AnsFit.no w 0 R
    · go_ret
      exact AnsFit.yes w 0 R (by omega) (Small.zero R)

def AnsFitB (w : World) (len : Nat) (R : Nat → RowD) (x : RowD) (e : Ending) (w' : World) : Prop :=
  ∃ t : Bool, e = .returned (.bool t) ∧ Below w.heap.size w w' ∧ (t = true → len ≤ 1048576 ∧ Small len R ∧ x.cl ≤ 1048576 ∧ x.id.size ≤ 1048576)
theorem AnsFitB.no {w w' : World} (len : Nat) (R : Nat → RowD) (x : RowD) (hb : Below w.heap.size w w') : AnsFitB w len R x (.returned (.bool false)) w' := ⟨false, rfl, hb, fun h => by cases h⟩
theorem AnsFitB.yes {w w' : World} {len : Nat} {R : Nat → RowD} {x : RowD} (hb : Below w.heap.size w w') (h1 : len ≤ 1048576) (h : Small len R) (h2 : x.cl ≤ 1048576) (h3 : x.id.size ≤ 1048576) : AnsFitB w len R x (.returned (.bool true)) w' :=
  ⟨true, rfl, hb, fun _ => ⟨h1, h, h2, h3⟩⟩

set_option maxHeartbeats 800000 in
theorem bytes11_any (a : Option Addr) (len cap : Nat) (R : Nat → RowD) (x : RowD) (j : Int) (id : ByteArray) (w : World) (hml : len ≤ maxLen) (hid : id.size ≤ maxLen) (hxi : x.id.size ≤ maxLen) (hxc : x.cl ≤ maxLen) (h : RowsAt w a len R) :
    Calls Try.prog 11 #[.slice a len cap, .agg #[.string x.id, .slice x.ca x.cl x.cc, .int .i64 x.past], .int .i64 j, .string id] w (AnsFitB w len R x) := by
  have hB : Below w.heap.size w (w.alloc (.cells #[.string x.id, .slice x.ca x.cl x.cc, .int .i64 x.past] 34)) := (Below.refl _ _).alloc (Nat.le_refl _) _
  have hh := h.kept (kept_of_below hB)
  clear h
  unfold maxLen at hml hid hxi hxc
  by_cases hs : (1048576 : Int) < (len : Int)
  · go_enter Try.func11, Try.ntmps11
    go_wp2
    go_ret
    exact AnsFitB.no len R x hB
  by_cases h0 : 0 < len
  · obtain ⟨b, off, rfl, hc⟩ := hh.1 h0
    clear hh
    have HB : Hid (Below w.heap.size w (w.alloc (.cells #[.string x.id, .slice x.ca x.cl x.cc, .int .i64 x.past] 34))) := hB
    clear hB
    go_enter Try.func11, Try.ntmps11
    go_wp2
    go_loop [9, 10] (fun t i => ∃ (k : Nat) (n : Int), k ≤ len ∧ i = .int .i64 k ∧ t = .int .i64 n ∧ n ≤ 1048576 ∧ 0 ≤ n ∧ Small k R) (fun _ i => len - (intOf i).toNat)
    case atStart => exact ⟨0, len, Nat.zero_le _, rfl, rfl, by omega, by omega, Small.zero R⟩
    case round =>
      obtain ⟨k, n, hk, rfl, rfl, hn, hn0, hsm⟩ := hrel
      by_cases hlt : k < len
      · have h1 := (hc k hlt).1
        have h2 := (hc k hlt).2.1
        clear hc
        by_cases c1 : (1048576 : Int) < ((R k).id.size : Int)
        · go_wp2
          go_ret
          exact AnsFitB.no len R x HB.out
        by_cases c2 : (1048576 : Int) < n + ((R k).id.size : Int)
        · go_wp2
          go_ret
          exact AnsFitB.no len R x HB.out
        by_cases c3 : (1048576 : Int) < ((R k).cl : Int)
        · go_wp2
          go_ret
          exact AnsFitB.no len R x HB.out
        by_cases c4 : (1048576 : Int) < n + ((R k).id.size : Int) + ((R k).cl : Int)
        · go_wp2
          go_ret
          exact AnsFitB.no len R x HB.out
        go_wp2
        go_round
        case rel => exact ⟨k + 1, _, by omega, by go_num, rfl, by omega, by omega, hsm.succ (by omega) (by omega)⟩
        case measure => simp [intOf]; omega
      · obtain rfl : k = len := by omega
        by_cases c1 : (1048576 : Int) < (x.id.size : Int)
        · go_wp2
          go_ret
          exact AnsFitB.no k R x HB.out
        by_cases c2 : (1048576 : Int) < n + (x.id.size : Int)
        · go_wp2
          go_ret
          exact AnsFitB.no k R x HB.out
        by_cases c3 : (1048576 : Int) < (x.cl : Int)
        · go_wp2
          go_ret
          exact AnsFitB.no k R x HB.out
        by_cases c4 : (1048576 : Int) < n + (x.id.size : Int) + (x.cl : Int)
        · go_wp2
          go_ret
          exact AnsFitB.no k R x HB.out
        by_cases c5 : (1048576 : Int) < (id.size : Int)
        · go_wp2
          go_ret
          exact AnsFitB.no k R x HB.out
        by_cases c6 : (1048576 : Int) < n + (x.id.size : Int) + (x.cl : Int) + (id.size : Int)
        · go_wp2
          go_ret
          exact AnsFitB.no k R x HB.out
        go_wp2
        go_ret
        exact AnsFitB.yes HB.out (by omega) hsm (by omega) (by omega)
  · obtain rfl : len = 0 := by omega
    clear hh
    have HB : Hid (Below w.heap.size w (w.alloc (.cells #[.string x.id, .slice x.ca x.cl x.cc, .int .i64 x.past] 34))) := hB
    clear hB
    have fin : (x.cl : Int) ≤ 1048576 → (x.id.size : Int) ≤ 1048576 → AnsFitB w 0 R x (.returned (.bool true)) (w.alloc (.cells #[.string x.id, .slice x.ca x.cl x.cc, .int .i64 x.past] 34)) :=
      fun h1 h2 => AnsFitB.yes HB.out (by omega) (Small.zero R) (by omega) (by omega)
    have FIN : Hid ((x.cl : Int) ≤ 1048576 → (x.id.size : Int) ≤ 1048576 → AnsFitB w 0 R x (.returned (.bool true)) (w.alloc (.cells #[.string x.id, .slice x.ca x.cl x.cc, .int .i64 x.past] 34))) := fin
    clear fin
    go_enter Try.func11, Try.ntmps11
    go_wp2
    refine wp_loop_rounds 1 ?_
    rw [rounds_succ]
    go_wp2
    all_goals go_ret
    all_goals first | exact AnsFitB.no 0 R x HB.out | exact FIN.out (by omega) (by omega)

end Go.Proofs.Qxb6631263a
