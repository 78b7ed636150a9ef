import Derived.Test.Qxb6632246aProg
import Derived.Test.Qxb6632246aGraph
import Derived.WalkKit
import Derived.WalkSpells
import Derived.WalkLawsBesides
import Derived.Deep.OwnRows
import Derived.Deep.RegionHeld3
import Derived.Deep.DrawnRows
namespace Go.Proofs.Qxb6632246a
open Go.RowKit

/-- A float is stored as any value of one cell (the kit's laws on stores name no float). -/
theorem run_store_float {P : Program} {w : World} {a : Addr} {m : Mode} (k : FloatKind) (b : Nat) : (store a (.float k b) m).run P w = stored P w a (.float k b) m := run_store P w a _ m rfl

/-- One row of arcs (or links): where it lies, how many, what they are. -/
structure RowG where
  ra : Option Addr
  rb : Nat
  ro : Nat
  rl : Nat
  rc : Nat
  to : Nat → Int
  pb : Nat → Nat

/-- The test 'P > 0'. -/
def posB (b : Nat) : Bool := FloatKind.f64.format.order b 0 == some Ordering.gt

structure ArcsAt (w : World) (r : RowG) : Prop where
  form : r.rl ≤ 0 ∨ r.ra = some ⟨r.rb, r.ro, none⟩
  nil : r.ra = none → r.rl = 0
  cell : ∀ c, c < r.rl → w.cell? ⟨r.rb, r.ro + c * 2, none⟩ = some (.int .i64 (r.to c)) ∧ w.cell? ⟨r.rb, r.ro + c * 2 + 1, none⟩ = some (.float .f64 (r.pb c))

structure GridAt (w : World) (a : Option Addr) (ab ao len : Nat) (R : Nat → RowG) : Prop where
  form : len ≤ 0 ∨ a = some ⟨ab, ao, none⟩
  cell : ∀ i, i < len → w.cell? ⟨ab, ao + i, none⟩ = some (.slice (R i).ra (R i).rl (R i).rc)
  rows : ∀ i, i < len → ArcsAt w (R i)

structure NamesAt (w : World) (a : Option Addr) (ab ao len : Nat) (S : Nat → ByteArray) : Prop where
  form : len ≤ 0 ∨ a = some ⟨ab, ao, none⟩
  cell : ∀ i, i < len → w.cell? ⟨ab, ao + i, none⟩ = some (.string (S i))

theorem kept_of_below {w w' : World} (h : Below w.heap.size w w') : ∀ a v, w.cell? a = some v → w'.cell? a = some v :=
  fun _ _ hv => (h.cell (World.block_lt_of_cell? w _ hv)).trans hv

theorem ArcsAt.kept {w w' : World} {r : RowG} (h : ArcsAt w r) (hk : ∀ a v, w.cell? a = some v → w'.cell? a = some v) : ArcsAt w' r :=
  ⟨h.form, h.nil, fun c hc => ⟨hk _ _ (h.cell c hc).1, hk _ _ (h.cell c hc).2⟩⟩
theorem GridAt.kept {w w' : World} {a : Option Addr} {ab ao len : Nat} {R : Nat → RowG} (h : GridAt w a ab ao len R) (hk : ∀ a v, w.cell? a = some v → w'.cell? a = some v) : GridAt w' a ab ao len R :=
  ⟨h.form, fun i hi => hk _ _ (h.cell i hi), fun i hi => (h.rows i hi).kept hk⟩
theorem NamesAt.kept {w w' : World} {a : Option Addr} {ab ao len : Nat} {S : Nat → ByteArray} (h : NamesAt w a ab ao len S) (hk : ∀ a v, w.cell? a = some v → w'.cell? a = some v) : NamesAt w' a ab ao len S :=
  ⟨h.form, fun i hi => hk _ _ (h.cell i hi)⟩

/-- All lengths are small. -/
def SmallG (nl al : Nat) (R : Nat → RowG) : Prop := nl ≤ 1048576 ∧ al ≤ 1048576 ∧ ∀ i, i < al → (R i).rl ≤ 1048576

def AnsFit (w : World) (nl al : Nat) (R : Nat → RowG) (e : Ending) (w' : World) : Prop := ∃ t : Bool, e = .returned (.bool t) ∧ w' = w ∧ (t = true → SmallG nl al R)
theorem AnsFit.no (w : World) (nl al : Nat) (R : Nat → RowG) : AnsFit w nl al R (.returned (.bool false)) w := ⟨false, rfl, rfl, fun h => by cases h⟩
theorem AnsFit.yes (w : World) {nl al : Nat} {R : Nat → RowG} (h : SmallG nl al R) : AnsFit w nl al R (.returned (.bool true)) w := ⟨true, rfl, rfl, fun _ => h⟩
def AnsB (w : World) (e : Ending) (w' : World) : Prop := ∃ t : Bool, e = .returned (.bool t) ∧ w' = w
theorem AnsB.mk (w : World) (t : Bool) : AnsB w (.returned (.bool t)) w := ⟨t, rfl, rfl⟩

def SmallTo (k : Nat) (R : Nat → RowG) : Prop := ∀ i, i < k → (R i).rl ≤ 1048576
theorem SmallTo.zero (R : Nat → RowG) : SmallTo 0 R := fun i h => by omega
theorem SmallTo.succ {k : Nat} {R : Nat → RowG} (h : SmallTo k R) (h1 : (R k).rl ≤ 1048576) : SmallTo (k + 1) R := fun i hi => by
  by_cases e : i = k
  · subst e; exact h1
  · exact h i (by omega)

set_option maxHeartbeats 1600000 in
theorem bytes5_any (na : Option Addr) (nb no nl nc : Nat) (S : Nat → ByteArray) (aa : Option Addr) (ab ao al ac : Nat) (R : Nat → RowG) (w : World) (hnl : nl ≤ maxLen) (hal : al ≤ maxLen) (hn : NamesAt w na nb no nl S) (hg : GridAt w aa ab ao al R) :
    Calls Try.prog 5 #[.slice na nl nc, .slice aa al ac] w (AnsFit w nl al R) := by
  unfold maxLen at hnl hal
  have hnc := hn.cell
  have hnf := hn.form
  have hgc := hg.cell
  have hgf := hg.form
  have HN : Hid (∀ i, i < nl → w.cell? ⟨nb, no + i, none⟩ = some (.string (S i))) := hnc
  have HG : Hid (∀ i, i < al → w.cell? ⟨ab, ao + i, none⟩ = some (.slice (R i).ra (R i).rl (R i).rc)) := hgc
  have HNF : Hid (nl ≤ 0 ∨ na = some ⟨nb, no, none⟩) := hnf
  have HGF : Hid (al ≤ 0 ∨ aa = some ⟨ab, ao, none⟩) := hgf
  clear hnc hgc hnf hgf hn hg
  by_cases hs : (1048576 : Int) < (nl : Int)
  · go_enter Try.func5, Try.ntmps5
    go_wp2
    go_ret
    exact AnsFit.no w nl al R
  go_enter Try.func5, Try.ntmps5
  go_wp2
  go_loop [5, 6] (fun t i => ∃ (k : Nat) (n : Int), k ≤ nl ∧ i = .int .i64 k ∧ t = .int .i64 n ∧ n ≤ 1048576 ∧ 0 ≤ n) (fun _ i => nl - (intOf i).toNat)
  case atStart => exact ⟨0, nl, Nat.zero_le _, rfl, rfl, by omega, by omega⟩
  case round =>
    obtain ⟨k, n, hk, rfl, rfl, hn1, hn0⟩ := hrel
    by_cases hlt : k < nl
    · obtain rfl : na = some ⟨nb, no, none⟩ := HNF.out.resolve_left (by omega)
      have c1 := HN.out k hlt
      by_cases q1 : (1048576 : Int) < ((S k).size : Int)
      · go_wp2
        go_ret
        exact AnsFit.no w nl al R
      by_cases q2 : (1048576 : Int) < n + ((S k).size : Int)
      · go_wp2
        go_ret
        exact AnsFit.no w nl al R
      go_wp2
      go_round
      case rel => exact ⟨k + 1, _, by omega, by go_num, rfl, by omega, by omega⟩
      case measure => simp [intOf]; omega
    · by_cases q1 : (1048576 : Int) < (al : Int)
      · go_wp2
        go_ret
        exact AnsFit.no w nl al R
      by_cases q2 : (1048576 : Int) < n + (al : Int)
      · go_wp2
        go_ret
        exact AnsFit.no w nl al R
      go_wp2
      go_loop [5, 7] (fun t i => ∃ (k : Nat) (n : Int), k ≤ al ∧ i = .int .i64 k ∧ t = .int .i64 n ∧ n ≤ 1048576 ∧ 0 ≤ n ∧ SmallTo k R) (fun _ i => al - (intOf i).toNat)
      case atStart => exact ⟨0, _, Nat.zero_le _, rfl, rfl, by omega, by omega, SmallTo.zero R⟩
      case round =>
        obtain ⟨m, n2, hm, rfl, rfl, hn2, hn3, hsm⟩ := hrel
        by_cases hlt2 : m < al
        · obtain rfl : aa = some ⟨ab, ao, none⟩ := HGF.out.resolve_left (by omega)
          have c1 := HG.out m hlt2
          by_cases q3 : (1048576 : Int) < ((R m).rl : Int)
          · go_wp2
            go_ret
            exact AnsFit.no w nl al R
          by_cases q4 : (1048576 : Int) < n2 + ((R m).rl : Int)
          · go_wp2
            go_ret
            exact AnsFit.no w nl al R
          go_wp2
          go_round
          case rel => exact ⟨m + 1, _, by omega, by go_num, rfl, by omega, by omega, hsm.succ (by omega)⟩
          case measure => simp [intOf]; omega
        · obtain rfl : al = m := by omega
          go_wp2
          go_ret
          exact AnsFit.yes w ⟨by omega, by omega, hsm⟩

end Go.Proofs.Qxb6632246a
