import Derived.Test.Qxb6631263aRowsAt
import Derived.Test.Qxb6631263aLeaf
import Derived.Maps.OwnSet
import Derived.Deep.OwnRows
import Derived.Deep.RegionHeld3
import Derived.Deep.DrawnRows
namespace Go.Proofs.Qxb6631263a
open Go.RowKit Go.Maps

/-- HOW A POINTER IN THE MAP READS: the number of the block that it leads to. -/
def ptrElem : Value → Option (DataW Unit × List MemPlace)
  | .pointer none => some (.nil, [])
  | .pointer (some a) => if a.off = 0 ∧ a.spot = none then some (.lit (.int .i64 a.block), []) else none
  | _ => none

theorem ptrElem_mk (b : Nat) : ptrElem (.pointer (some ⟨b, 0, none⟩)) = some (.lit (.int .i64 b), []) := by simp [ptrElem]
theorem ptrElem_nil : ptrElem (.pointer none) = some (.nil, []) := rfl
theorem ptrElem_inv {v : Value} {b : Nat} {ps : List MemPlace} (h : ptrElem v = some (.lit (.int .i64 b), ps)) : v = .pointer (some ⟨b, 0, none⟩) := by
  unfold ptrElem at h
  split at h
  · simp at h
  · rename_i a
    split at h
    · rename_i ha
      obtain ⟨ab, ao, asp⟩ := a
      simp at ha h
      obtain ⟨rfl, rfl⟩ := ha
      have : ab = b := by omega
      subst this
      rfl
    · cases h
  · cases h

/-- What one key stands at: its counters' numbers and its past count. -/
abbrev Ans := List Int × Int

/-- Block kb holds the counters of a key that stands at (cfg, past). -/
def KeyAt (w : World) (kb : Nat) (v : Ans) : Prop :=
  ∃ cb, w.rowIs kb 54 2 (fun j => if j = 0 then .slice (some ⟨cb, 0, none⟩) v.1.length v.1.length else .int .i64 v.2) ∧
    w.rowIs cb 52 v.1.length (fun j => .int .i64 (v.1.getD j 0)) ∧ v.1.length ≤ 1048576

theorem KeyAt.kept {w w' : World} {kb mb : Nat} {v : Ans} (h : KeyAt w kb v) (hg : w.grownBy w' (some mb)) (hm : ∃ es c, w.heap[mb]? = some (.map es c)) : KeyAt w' kb v := by
  obtain ⟨cb, h1, h2, h3⟩ := h
  obtain ⟨es, c, hm⟩ := hm
  have n1 : kb ≠ mb := by
    rintro rfl
    obtain ⟨c1, hc1, _⟩ := h1
    rw [hm] at hc1; cases hc1
  have n2 : cb ≠ mb := by
    rintro rfl
    obtain ⟨c1, hc1, _⟩ := h2
    rw [hm] at hc1; cases hc1
  exact ⟨cb, h1.of_block (hg.block _ h1.lt (by simpa using n1)), h2.of_block (hg.block _ h2.lt (by simpa using n2)), h3⟩

theorem KeyAt.below {w w' : World} {kb : Nat} {v : Ans} (h : KeyAt w kb v) (hg : Below w.heap.size w w') : KeyAt w' kb v := by
  obtain ⟨cb, h1, h2, h3⟩ := h
  exact ⟨cb, h1.of_block (hg.block _ h1.lt), h2.of_block (hg.block _ h2.lt), h3⟩

abbrev keyLit (id : ByteArray) : Lit := .string id.data.toList

/-- THE SERVED THAT s LEADS TO ANSWERS AS L. -/
structure Served (w : World) (sb mb n : Nat) (L : List UInt8 → Option Ans) : Prop where
  cell : w.rowIs sb 44 1 (fun _ => .map (some mb))
  map : ∃ D : DataW Unit, w.ownsMap Try.prog 9 ptrElem mb n D ∧ (∀ l, L l = none → Maps.has D (.string l) = false) ∧
    (∀ l v, L l = some v → Maps.has D (.string l) = true ∧ ∃ kb : Nat, D.atKey (.string l) .nil = .lit (.int .i64 kb) ∧ KeyAt w kb v)

theorem Served.below {w w' : World} {sb mb n : Nat} {L : List UInt8 → Option Ans} (h : Served w sb mb n L) (hg : Below w.heap.size w w') : Served w' sb mb n L := by
  obtain ⟨hc, D, hm, h0, h1⟩ := h
  refine ⟨hc.of_block (hg.block _ hc.lt), D, ?_, h0, fun l v hl => ?_⟩
  · have hlt := hm.lt
    obtain ⟨es, clock, hb, r⟩ := hm
    exact ⟨es, clock, (hg.block _ hlt).trans hb, r⟩
  · obtain ⟨h2, kb, h3, h4⟩ := h1 l v hl
    exact ⟨h2, kb, h3, h4.below hg⟩

theorem law9 : Keyed Try.prog 9 := string_keyed Try.underlying9
theorem zero40 (w : World) : (zeroValue 40).run Try.prog w = .ok (.pointer none) w := by kernel_rfl

theorem i52 : (Try.prog.info? 52).map (fun i => (i.zero, i.size, i.bytes)) = some (some (.agg #[.int .i64 0]), 1, 8) := by kernel_rfl
theorem i2 : (Try.prog.info? 2).map (fun i => (i.zero, i.size, i.bytes)) = some (some (.int .i64 0), 1, 8) := by kernel_rfl

/-- 'make([]Counter, n)'. -/
theorem make45 (n : Nat) (hn : n ≤ 1048576) (w : World) :
    (Instr.makeSlice 45 (.int .i64 (n : Int)) (.int .i64 (n : Int))).run Try.prog w = .ok (.slice (some ⟨w.heap.size, 0, none⟩) n n) (w.alloc (.cells (madeCells #[.int .i64 0] n) 52)) := by
  obtain ⟨i, hi, hzz⟩ := Option.map_eq_some_iff.1 i52
  simp only [Prod.mk.injEq] at hzz
  obtain ⟨hz, hs, hb⟩ := hzz
  have hr := run_make (P := Try.prog) w 45 52 i (.agg #[.int .i64 0]) Try.underlying45 hi hz .i64 .i64 n n (by omega) (Int.le_refl _) (by rw [hb]; omega) (by omega)
  simp only [Int.toNat_natCast, hs, Nat.mul_one, Value.cells] at hr
  exact hr

theorem ownsMap_below {w w' : World} {B mb n : Nat} {D : DataW Unit} (h : w.ownsMap Try.prog 9 ptrElem mb n D) (hg : Below B w w') (hlt : mb < B) : w'.ownsMap Try.prog 9 ptrElem mb n D := by
  obtain ⟨es, clock, hb, r⟩ := h
  exact ⟨es, clock, (hg.block _ hlt).trans hb, r⟩

theorem ownsMap_isMap {w : World} {mb n : Nat} {D : DataW Unit} (h : w.ownsMap Try.prog 9 ptrElem mb n D) : ∃ es c, w.heap[mb]? = some (.map es c) := by
  obtain ⟨es, clock, hb, _⟩ := h
  exact ⟨es, clock, hb⟩

/-- What is new lies behind what was there; a map that was there has been written. -/
theorem grown_of {w w1 w2 : World} {mb : Nat} (hb : Below w.heap.size w w1) (hg : w1.grownBy w2 (some mb)) : w.grownBy w2 (some mb) :=
  ⟨hg.os.trans hb.os, hg.tape.trans hb.tape, hg.output.trans hb.output, Nat.le_trans hb.size hg.size,
    fun k hk hne => (hg.block k (Nat.lt_of_lt_of_le hk hb.size) hne).trans (hb.block k hk)⟩

/-! ### What the steps of ZZaddKey do to the world -/
def cells52 (cfg : List Int) (k : Nat) : Nat → Value := fun j => .int .i64 (if j < k then cfg.getD j 0 else 0)
def cells54 (B cl : Nat) (past : Int) : Nat → Value := fun j => if j = 0 then .slice (some ⟨B, 0, none⟩) cl cl else .int .i64 past

theorem add_start (w : World) (cfg : List Int) (cl : Nat) :
    ((w.alloc (.cells (madeCells #[.int .i64 0] cl) 52)).alloc (.cells #[.slice (some ⟨w.heap.size, 0, none⟩) cl cl, .int .i64 0] 54)).rowIs w.heap.size 52 cl (cells52 cfg 0) ∧
    ((w.alloc (.cells (madeCells #[.int .i64 0] cl) 52)).alloc (.cells #[.slice (some ⟨w.heap.size, 0, none⟩) cl cl, .int .i64 0] 54)).rowIs (w.heap.size + 1) 54 2 (cells54 w.heap.size cl 0) ∧
    Below w.heap.size w ((w.alloc (.cells (madeCells #[.int .i64 0] cl) 52)).alloc (.cells #[.slice (some ⟨w.heap.size, 0, none⟩) cl cl, .int .i64 0] 54)) ∧
    ((w.alloc (.cells (madeCells #[.int .i64 0] cl) 52)).alloc (.cells #[.slice (some ⟨w.heap.size, 0, none⟩) cl cl, .int .i64 0] 54)).heap.size = w.heap.size + 2 := by
  refine ⟨((World.rowIs_made w (.int .i64 0) cl 52).alloc _).congr (fun i hi => by simp [cells52]), ?_, ((Below.refl _ _).alloc (Nat.le_refl _) _).alloc (by simp) _, by simp⟩
  have h := World.rowIs_alloc (w.alloc (.cells (madeCells #[.int .i64 0] cl) 52)) #[.slice (some ⟨w.heap.size, 0, none⟩) cl cl, .int .i64 0] 54 (cells54 w.heap.size cl 0) (by
    intro i hi
    match i, hi with
    | 0, _ => simp [cells54]
    | 1, _ => simp [cells54])
  simpa using h

theorem add_step {w wr : World} {cfg : List Int} {cl k : Nat} (h1 : wr.rowIs w.heap.size 52 cl (cells52 cfg k)) (h2 : wr.rowIs (w.heap.size + 1) 54 2 (cells54 w.heap.size cl 0)) (hb : Below w.heap.size w wr) (hsz : wr.heap.size = w.heap.size + 2) :
    (wr.setCell ⟨w.heap.size, k, none⟩ (.int .i64 (cfg[k]?.getD 0))).drew.rowIs w.heap.size 52 cl (cells52 cfg (k + 1)) ∧
    (wr.setCell ⟨w.heap.size, k, none⟩ (.int .i64 (cfg[k]?.getD 0))).drew.rowIs (w.heap.size + 1) 54 2 (cells54 w.heap.size cl 0) ∧
    Below w.heap.size w (wr.setCell ⟨w.heap.size, k, none⟩ (.int .i64 (cfg[k]?.getD 0))).drew ∧
    (wr.setCell ⟨w.heap.size, k, none⟩ (.int .i64 (cfg[k]?.getD 0))).drew.heap.size = w.heap.size + 2 := by
  refine ⟨((h1.set k _).congr (fun i hi => ?_)).drew, (h2.setOther (by simp) _).drew, (hb.setCell (Nat.le_refl _) _).drew, by simpa [World.setCell] using hsz⟩
  simp only [cells52]
  by_cases e : i = k
  · subst e; simp
  · rw [if_neg e]
    by_cases e2 : i < k
    · rw [if_pos e2, if_pos (by omega)]
    · rw [if_neg e2, if_neg (by omega)]

/-- The key's counters, behind the last store. -/
theorem add_key {w wr w2 : World} {cfg : List Int} {past : Int} {cl k mb : Nat} {n : Nat} {D : DataW Unit} (hlen : cfg.length = cl) (hk : k = cl) (hcl : cl ≤ 1048576) (hmlt : mb < w.heap.size) (hm : w.ownsMap Try.prog 9 ptrElem mb n D)
    (h1 : wr.rowIs w.heap.size 52 cl (cells52 cfg k)) (h2 : wr.rowIs (w.heap.size + 1) 54 2 (cells54 w.heap.size cl 0)) (hb : Below w.heap.size w wr)
    (hg : (wr.setCell ⟨w.heap.size + 1, 1, none⟩ (.int .i64 past)).grownBy w2 (some mb)) : KeyAt w2 (w.heap.size + 1) (cfg, past) ∧ w.grownBy w2 (some mb) := by
  have hb2 : Below w.heap.size w (wr.setCell ⟨w.heap.size + 1, 1, none⟩ (.int .i64 past)) := hb.setCell (by simp) _
  refine ⟨KeyAt.kept (mb := mb) ⟨w.heap.size, ?_, ?_, ?_⟩ hg (ownsMap_isMap (ownsMap_below hm hb2 hmlt)), grown_of hb2 hg⟩
  · refine (h2.set 1 _).congr (fun i hi => ?_)
    match i, hi with
    | 0, _ => simp [cells54, hlen]
    | 1, _ => simp
  · subst hk
    simp only [hlen]
    refine (h1.setOther (by simp) _).congr (fun i hi => ?_)
    simp [cells52, hi]
  · simp only [hlen]; exact hcl

end Go.Proofs.Qxb6631263a
