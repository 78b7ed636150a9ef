import Derived.Test.Qxb6632283aCounts
import Derived.Laws.CopyOwn
import Derived.Deep.DeepCutAuto
namespace Go.Proofs.Qxb6632283a
open Go.RowKit

theorem make22 (n : Nat) (hn : n ≤ 1048576) (w : World) :
    (Instr.makeSlice 22 (.int .i64 (n : Int)) (.int .i64 (n : Int))).run Try.prog w = .ok (.slice (some ⟨w.heap.size, 0, none⟩) n n) (w.alloc (.cells (madeCells #[.int .u8 0] n) 5)) :=
  run_make_row' 22 5 (.int .u8 0) 1 Try.underlying22 i5 rfl .i64 .i64 n (by omega) (by omega) w

def bytesOf (y : Nat → Nat) (len : Nat) : List Value := (List.range len).map (fun i => .int .u8 (y i : Int))
def zeros (len : Nat) : List Value := (madeCells #[.int .u8 0] len).toList
theorem zeros_len (len : Nat) : (zeros len).length = len := by simp [zeros, size_madeCells]
theorem bytesOf_len (y : Nat → Nat) (len : Nat) : (bytesOf y len).length = len := by simp [bytesOf]
theorem made_blk (w : World) (len : Nat) : (w.alloc (.cells (madeCells #[.int .u8 0] len) 5)).heap[w.heap.size]? = some (.cells (zeros len).toArray 5 (0, 0)) := by
  rw [Deep.blk_alloc_new]
  simp [zeros]
theorem splice_all (y : Nat → Nat) (len : Nat) : splice (zeros len) 0 (bytesOf y len) = bytesOf y len := by
  have h1 := zeros_len len
  have h2 := bytesOf_len y len
  unfold splice
  rw [h2, List.take_zero, List.nil_append, Nat.zero_add, List.drop_eq_nil_of_le (by omega), List.append_nil]
theorem bytesAt_of_splice {w' : World} {g len : Nat} {y : Nat → Nat} (h : w'.heap[g]? = some (.cells (splice (zeros len) 0 (bytesOf y len)).toArray 5 (0, 0))) (hlt : ∀ i, i < len → y i < 256) :
    BytesAt w' (some ⟨g, 0, none⟩) g 0 len y := by
  rw [splice_all] at h
  have hr : w'.rowIs g 5 len (fun i => .int .u8 (y i : Int)) := ⟨_, h, by simp [bytesOf], fun i hi => by simp [bytesOf, hi]⟩
  exact ⟨Or.inr rfl, fun i hi => by rw [Nat.zero_add]; exact hr.cell hi, hlt⟩

theorem BytesAt.kept {w w' : World} {a : Option Addr} {ab ao len : Nat} {y : Nat → Nat} (h : BytesAt w a ab ao len y) (hb : Below w.heap.size w w') : BytesAt w' a ab ao len y :=
  ⟨h.form, fun i hi => kept_of_below hb _ _ (h.cell i hi), h.lt⟩

theorem add_plain (g o n : Nat) : (⟨g, o, none⟩ : Addr).add n = ⟨g, o + n, none⟩ := by
  unfold Addr.add
  split
  · next h => subst h; rfl
  · rfl

/-- What comes in, by the byte. -/
theorem bytesAt_of_row {w : World} {a : Option Addr} {len cap : Nat} {zs : List Int}
    (h : (a = none ∧ len = 0 ∧ cap = 0 ∧ zs = []) ∨ ∃ x, a = some x ∧ len ≤ cap ∧ cap ≤ maxLen ∧ zs.length = cap ∧ (∀ i, i < zs.length → w.cell? (x.add i) = some (.int .u8 (zs.getD i 0))) ∧ ∀ n ∈ zs, (Lit.int .u8 n).wf = true) :
    len ≤ cap ∧ ∃ ab ao, BytesAt w a ab ao len (fun i => (zs.getD i 0).toNat) := by
  rcases h with ⟨rfl, rfl, rfl, rfl⟩ | ⟨x, rfl, hlc, _, hz, hc, hw⟩
  · exact ⟨Nat.le_refl _, 0, 0, Or.inl (Nat.le_refl _), fun i hi => by omega, fun i hi => by omega⟩
  · refine ⟨hlc, ?_⟩
    have hwf : ∀ i, i < len → 0 ≤ zs.getD i 0 ∧ zs.getD i 0 ≤ 255 := by
      intro i hi
      have hi2 : i < zs.length := by omega
      have hm := hw (zs.getD i 0) (by simp [List.getD_eq_getElem?_getD, hi2])
      have h1 : decide (IntKind.u8.min ≤ zs.getD i 0) = true ∧ decide (zs.getD i 0 ≤ IntKind.u8.max) = true := by
        have := hm
        unfold Lit.wf at this
        exact Bool.and_eq_true_iff.1 this
      have h2 := of_decide_eq_true h1.1
      have h3 := of_decide_eq_true h1.2
      have e1 : IntKind.u8.min = 0 := by decide
      have e2 : IntKind.u8.max = 255 := by decide
      omega
    by_cases h0 : len = 0
    · subst h0
      exact ⟨0, 0, Or.inl (Nat.le_refl _), fun i hi => by omega, fun i hi => by omega⟩
    · obtain ⟨ab, ao, spot⟩ := x
      have hspot : spot = none := by simpa [Addr.add] using World.cell?_spot (hc 0 (by omega))
      subst hspot
      refine ⟨ab, ao, Or.inr rfl, fun i hi => ?_, fun i hi => ?_⟩
      · have h1 := hc i (by omega)
        rw [add_plain] at h1
        rw [h1]
        have := hwf i hi
        congr 2
        omega
      · have := hwf i hi
        show (zs.getD i 0).toNat < 256
        omega

/-- The copy laid: a row of the same bytes, whatever came in. -/
def Laid (w : World) (len : Nat) (y : Nat → Nat) (v : Value) (wc : World) : Prop :=
  ∃ (a : Option Addr) (ab ao cap : Nat), v = .slice a len cap ∧ len ≤ cap ∧ BytesAt wc a ab ao len y ∧ Below w.heap.size w wc

theorem copy_run (x : Addr) (ab ao len cap : Nat) (y : Nat → Nat) (w : World) (hb : BytesAt w (some x) ab ao len y) :
    ∃ w2, (Builtin.copy_ #[22, 22] 3 #[.slice (some ⟨w.heap.size, 0, none⟩) len len, .slice (some x) len cap]).run Try.prog (w.alloc (.cells (madeCells #[.int .u8 0] len) 5)) = .ok (.int .i64 (len : Int)) w2 ∧
      Laid w len y (.slice (some ⟨w.heap.size, 0, none⟩) len len) w2 := by
  have hbel : Below w.heap.size w (w.alloc (.cells (madeCells #[.int .u8 0] len) 5)) := (Below.refl _ _).alloc (Nat.le_refl _) _
  have hsz : (Try.prog.info? 5).map (·.size) = some 1 := by kernel_rfl
  by_cases h0 : len = 0
  · subst h0
    refine ⟨_, run_copy_none _ 22 22 3 5 _ _ 0 0 0 cap Try.underlying22 hsz rfl, _, w.heap.size, 0, _, rfl, Nat.le_refl _, ⟨Or.inl (Nat.le_refl _), fun i hi => by omega, fun i hi => by omega⟩, hbel⟩
  · have hx : x = ⟨ab, ao, none⟩ := by
      have := hb.form.resolve_left (by omega)
      simpa using this
    subst hx
    have hr := run_copy_row (P := Try.prog) (w.alloc (.cells (madeCells #[.int .u8 0] len) 5)) 22 22 3 5 w.heap.size 0 len len ⟨ab, ao, none⟩ len cap (zeros len).toArray 5 (bytesOf y len) Try.underlying22 hsz
      (made_blk w len) (by rw [bytesOf_len]; exact (Nat.min_self _).symm) (by
        intro j v hv
        have hj : j < len := by
          obtain ⟨h, _⟩ := List.getElem?_eq_some_iff.1 hv
          rw [bytesOf_len] at h; exact h
        have hv2 : v = .int .u8 (y j : Int) := by
          simp [bytesOf, hj] at hv
          exact hv.symm
        subst hv2
        exact kept_of_below hbel _ _ (by
          have hc := hb.cell j hj
          rcases Nat.eq_zero_or_pos j with e | e
          · subst e; exact hc
          · have e2 : ¬ j = 0 := by omega
            simpa [Addr.add, e2] using hc)) (by simp [zeros_len, bytesOf_len]) (by
        intro v hv
        simp [bytesOf] at hv
        obtain ⟨i, _, rfl⟩ := hv
        rfl)
    rw [bytesOf_len] at hr
    refine ⟨_, hr, _, w.heap.size, 0, _, rfl, Nat.le_refl _, bytesAt_of_splice ?_ hb.lt, below_setRow hbel (Nat.le_refl _) _⟩
    rw [setRow_heap _ _ _ _ _ _ (made_blk w len)]
    simp [splice, bytesOf_len]

end Go.Proofs.Qxb6632283a
