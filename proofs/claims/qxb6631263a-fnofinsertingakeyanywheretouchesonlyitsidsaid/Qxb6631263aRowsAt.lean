import Derived.Test.Qxb6631263aProg
import Derived.WalkKit
import Derived.WalkSpells
import Derived.WalkLawsBesides
namespace Go.Proofs.Qxb6631263a
open Go.RowKit

/-- One row as data: its id, its configs' slice (address, length, capacity), the numbers in it, its past count. -/
structure RowD where
  id : ByteArray
  ca : Option Addr
  cl : Nat
  cc : Nat
  cfg : List Int
  past : Int

/-- The numbers of a row's configs lie where its slice says. -/
def CfgAt (w : World) (r : RowD) : Prop :=
  r.cfg.length = r.cl ∧ r.cl ≤ r.cc ∧ (0 < r.cl → ∃ b off, r.ca = some ⟨b, off, none⟩ ∧ ∀ j, j < r.cl → w.cell? ⟨b, off + j, none⟩ = some (.int .i64 (r.cfg.getD j 0)))

/-- The rows lie where the slice says. -/
def RowsAt (w : World) (a : Option Addr) (len : Nat) (R : Nat → RowD) : Prop :=
  (0 < len → ∃ b off, a = some ⟨b, off, none⟩ ∧ ∀ i, i < len → w.cell? ⟨b, off + i * 3, none⟩ = some (.string (R i).id) ∧
    w.cell? ⟨b, off + i * 3 + 1, none⟩ = some (.slice (R i).ca (R i).cl (R i).cc) ∧ w.cell? ⟨b, off + i * 3 + 2, none⟩ = some (.int .i64 (R i).past)) ∧
  ∀ i, i < len → CfgAt w (R i)

theorem CfgAt.kept {w w' : World} {r : RowD} (h : CfgAt w r) (hk : ∀ a v, w.cell? a = some v → w'.cell? a = some v) : CfgAt w' r := by
  obtain ⟨h1, h2, h3⟩ := h
  refine ⟨h1, h2, fun hp => ?_⟩
  obtain ⟨b, off, hb, hc⟩ := h3 hp
  exact ⟨b, off, hb, fun j hj => hk _ _ (hc j hj)⟩

theorem RowsAt.kept {w w' : World} {a : Option Addr} {len : Nat} {R : Nat → RowD} (h : RowsAt w a len R) (hk : ∀ a v, w.cell? a = some v → w'.cell? a = some v) : RowsAt w' a len R := by
  obtain ⟨h1, h2⟩ := h
  refine ⟨fun hp => ?_, fun i hi => (h2 i hi).kept hk⟩
  obtain ⟨b, off, hb, hc⟩ := h1 hp
  exact ⟨b, off, hb, fun i hi => ⟨hk _ _ (hc i hi).1, hk _ _ (hc i hi).2.1, hk _ _ (hc i hi).2.2⟩⟩

/-- What is there stays there while nothing old is written. -/
theorem kept_of_below {w w' : World} (h : Below w.heap.size w w') : ∀ a v, w.cell? a = some v → w'.cell? a = some v :=
  fun _ _ hv => (h.cell (World.block_lt_of_cell? w _ hv)).trans hv

def lastAt (R : Nat → RowD) (id : ByteArray) : Nat → Int
  | 0 => -1
  | k + 1 => if ((R k).id.toList == id.toList) = true then (k : Int) else lastAt R id k

theorem lastAt_yes {R : Nat → RowD} {id : ByteArray} {k : Nat} (h : ((R k).id.toList == id.toList) = true) : lastAt R id (k + 1) = k := by simp [lastAt, h]
theorem lastAt_no {R : Nat → RowD} {id : ByteArray} {k : Nat} (h : ((R k).id.toList == id.toList) = false) : lastAt R id (k + 1) = lastAt R id k := by simp [lastAt, h]

theorem lastAt_any (a : Option Addr) (len cap : Nat) (R : Nat → RowD) (id : ByteArray) (w : World) (hl : len ≤ 1048576) (h : RowsAt w a len R) :
    Calls Try.prog 8 #[.slice a len cap, .string id] w fun e w' => e = .returned (.int .i64 (lastAt R id len)) ∧ w' = w := by
  by_cases h0 : 0 < len
  · obtain ⟨b, off, rfl, hc⟩ := h.1 h0
    clear h
    go_enter Try.func8, Try.ntmps8
    go_wp2
    go_loop [5, 9] (fun t i => ∃ k : Nat, k ≤ len ∧ i = .int .i64 k ∧ t = .int .i64 (lastAt R id k)) (fun _ i => len - (intOf i).toNat)
    case atStart => exact ⟨0, Nat.zero_le _, rfl, rfl⟩
    case round =>
      obtain ⟨k, hk, rfl, rfl⟩ := hrel
      by_cases hlt : k < len
      · have h1 := (hc k hlt).1
        clear hc
        go_wp2
        · go_round
          case rel => exact ⟨k + 1, by omega, by go_num, by rw [lastAt_yes ‹_›]⟩
          case measure => simp [intOf]; omega
        · go_round
          case rel => exact ⟨k + 1, by omega, by go_num, by rw [lastAt_no ‹_›]⟩
          case measure => simp [intOf]; omega
      · go_wp2
        go_ret
        obtain rfl : k = len := by omega
        exact ⟨rfl, rfl⟩
  · obtain rfl : len = 0 := by omega
    go_enter Try.func8, Try.ntmps8
    go_wp2
    refine wp_loop_rounds 1 ?_
    rw [rounds_succ]
    go_wp2
    go_ret
    exact ⟨rfl, rfl⟩

/-- It answers one bool and writes nothing. -/
def AnsB (w : World) (e : Ending) (w' : World) : Prop := ∃ t : Bool, e = .returned (.bool t) ∧ w' = w
theorem AnsB.mk (w : World) (t : Bool) : AnsB w (.returned (.bool t)) w := ⟨t, rfl, rfl⟩

/-- zzTooBig: it answers one bool and writes nothing. -/
theorem tooBig_any (a : Option Addr) (len cap : Nat) (R : Nat → RowD) (st : Int) (w : World) (hl : len ≤ 1048576) (h : RowsAt w a len R) :
    Calls Try.prog 6 #[.slice a len cap, .int .i64 st] w (AnsB w) := by
  by_cases hs : 1048576 < st
  · go_enter Try.func6, Try.ntmps6
    go_wp2
    go_ret
    exact AnsB.mk w true
  by_cases h0 : 0 < len
  · obtain ⟨b, off, rfl, hc⟩ := h.1 h0
    clear h
    go_enter Try.func6, Try.ntmps6
    go_wp2
    go_loop [5, 12] (fun t i => ∃ (k : Nat) (n : Int), k ≤ len ∧ i = .int .i64 k ∧ t = .int .i64 n) (fun _ i => len - (intOf i).toNat)
    case atStart => exact ⟨0, st, Nat.zero_le _, rfl, rfl⟩
    case round =>
      obtain ⟨k, n, hk, rfl, rfl⟩ := hrel
      by_cases hlt : k < len
      · have h1 := (hc k hlt).1
        have h2 := (hc k hlt).2.1
        clear hc
        by_cases c1 : (1048576 : Int) < ((R k).id.size : Int)
        · go_wp2
          go_ret
          exact AnsB.mk w true
        by_cases c2 : (131072 : Int) < ((R k).cl : Int)
        · go_wp2
          go_ret
          exact AnsB.mk w true
        go_wp2
        · go_ret
          exact AnsB.mk w true
        · go_ret
          exact AnsB.mk w true
        · go_round
          case rel => exact ⟨k + 1, _, by omega, by go_num, rfl⟩
          case measure => simp [intOf]; omega
      · go_wp2
        go_ret
        exact AnsB.mk w false
  · obtain rfl : len = 0 := by omega
    go_enter Try.func6, Try.ntmps6
    go_wp2
    refine wp_loop_rounds 1 ?_
    rw [rounds_succ]
    go_wp2
    go_ret
    exact AnsB.mk w false

end Go.Proofs.Qxb6631263a
