import Derived.Test.Qxb6631318aFmtProg
import Derived.Test.Qxb6631318aFmtPlain
import Derived.WalkKit
import Derived.WalkSpells
import Derived.WalkLawsBesides
import Derived.Deep.OwnRows
import Derived.Deep.RegionHeld3
import Derived.Deep.DrawnRows
namespace Go.Proofs.Qxb6631318aFmt
open Go.RowKit

/-- The numbers Z lie where the slice says. -/
def IntsAt (w : World) (a : Option Addr) (len : Nat) (Z : Nat → Int) : Prop :=
  (len ≤ 0 ∨ ∃ b off, a = some ⟨b, off, none⟩ ∧ ∀ i, i < len → w.cell? ⟨b, off + i, none⟩ = some (.int .i64 (Z i))) ∧ ∀ i, i < len → Fits64 (Z i)

theorem IntsAt.kept {w w' : World} {a : Option Addr} {len : Nat} {Z : Nat → Int} (h : IntsAt w a len Z) (hb : Below w.heap.size w w') : IntsAt w' a len Z := by
  refine ⟨?_, h.2⟩
  rcases h.1 with h1 | ⟨b, off, h1, h2⟩
  · exact Or.inl h1
  · exact Or.inr ⟨b, off, h1, fun i hi => (hb.cell (World.block_lt_of_cell? w _ (h2 i hi))).trans (h2 i hi)⟩

def AnsLen (w : World) (len : Nat) (e : Ending) (w' : World) : Prop := ∃ t : Bool, e = .returned (.bool t) ∧ w' = w ∧ (t = true → len ≤ 1048576)
theorem AnsLen.no (w : World) (len : Nat) : AnsLen w len (.returned (.bool false)) w := ⟨false, rfl, rfl, fun h => by cases h⟩
theorem AnsLen.yes (w : World) {len : Nat} (h : len ≤ 1048576) : AnsLen w len (.returned (.bool true)) w := ⟨true, rfl, rfl, fun _ => h⟩

theorem bytes5_any (a : Option Addr) (len cap : Nat) (w : World) (hl : len ≤ maxLen) :
    Calls Tryf.prog 5 #[.slice a len cap] w (AnsLen w len) := by
  unfold maxLen at hl
  by_cases h : (1048576 : Int) < (len : Int)
  · go_enter Tryf.func5, Tryf.ntmps5
    go_wp2
    go_ret
    exact AnsLen.no w len
  · go_enter Tryf.func5, Tryf.ntmps5
    go_wp2
    go_ret
    exact AnsLen.yes w (by omega)

theorem bytes9_any (a : Option Addr) (len cap : Nat) (k : Int) (w : World) (hl : len ≤ maxLen) :
    Calls Tryf.prog 9 #[.slice a len cap, .int .i64 k] w (AnsLen w len) := by
  unfold maxLen at hl
  by_cases h : (1048576 : Int) < (len : Int)
  · go_enter Tryf.func9, Tryf.ntmps9
    go_wp2
    go_ret
    exact AnsLen.no w len
  · go_enter Tryf.func9, Tryf.ntmps9
    go_wp2
    go_ret
    exact AnsLen.yes w (by omega)

def AnsNo (w : World) (Z : Nat → Int) (len : Nat) (e : Ending) (w' : World) : Prop := ∃ t : Bool, e = .returned (.bool t) ∧ w' = w ∧ (t = true → NoOv Z len)
theorem AnsNo.no (w : World) (Z : Nat → Int) (len : Nat) : AnsNo w Z len (.returned (.bool false)) w := ⟨false, rfl, rfl, fun h => by cases h⟩
theorem AnsNo.yes (w : World) {Z : Nat → Int} {len : Nat} (h : NoOv Z len) : AnsNo w Z len (.returned (.bool true)) w := ⟨true, rfl, rfl, fun _ => h⟩

set_option maxHeartbeats 800000 in
theorem noOv_any (a : Option Addr) (len cap : Nat) (Z : Nat → Int) (w : World) (hl : len ≤ 1048576) (h : IntsAt w a len Z) :
    Calls Tryf.prog 6 #[.slice a len cap] w (AnsNo w Z len) := by
  have HZ : Hid (∀ i, i < len → Fits64 (Z i)) := h.2
  rcases h.1 with hcl | ⟨b, off, rfl, hc⟩
  all_goals
    clear h
    go_enter Tryf.func6, Tryf.ntmps6
    go_wp2
    go_loop [3, 4] (fun t i => ∃ k : Nat, k ≤ len ∧ i = .int .i64 k ∧ t = .int .i64 (psum Z k) ∧ NoOv Z k) (fun _ i => len - (intOf i).toNat)
    case atStart => exact ⟨0, Nat.zero_le _, rfl, rfl, NoOv.zero Z⟩
    case round =>
      obtain ⟨k, hk, rfl, rfl, hno⟩ := hrel
      by_cases hlt : k < len
      · first
        | (exfalso; omega)
        | (have c1 := hc k hlt
           obtain ⟨z1, z2⟩ := HZ.out k hlt
           obtain ⟨s1, s2⟩ := hno k (Nat.le_refl _)
           have HS : Hid (psum Z (k + 1) = psum Z k + Z k) := rfl
           have HN : Hid (Fits64 (psum Z k + Z k) → NoOv Z (k + 1)) := hno.succ
           generalize psum Z k = s at *
           generalize Z k = v at *
           clear hc hno
           by_cases p1 : 0 < v
           · by_cases p2 : 9223372036854775807 - v < s
             · go_wp2
               go_ret
               exact AnsNo.no w Z len
             · go_wp2
               go_round
               case rel => exact ⟨k + 1, by omega, by go_num, by rw [HS.out], HN.out ⟨by omega, by omega⟩⟩
               case measure => simp [intOf]; omega
           · by_cases p3 : v < 0
             · by_cases p2 : s < -9223372036854775808 - v
               · go_wp2
                 go_ret
                 exact AnsNo.no w Z len
               · go_wp2
                 go_round
                 case rel => exact ⟨k + 1, by omega, by go_num, by rw [HS.out], HN.out ⟨by omega, by omega⟩⟩
                 case measure => simp [intOf]; omega
             · go_wp2
               go_round
               case rel => exact ⟨k + 1, by omega, by go_num, by rw [HS.out], HN.out ⟨by omega, by omega⟩⟩
               case measure => simp [intOf]; omega)
      · obtain rfl : len = k := by omega
        go_wp2
        go_ret
        exact AnsNo.yes w hno

/-! ### A measure in memory -/
def meas (nm : ByteArray) (runs total lo hi : Int) : Nat → Value := fun j => if j = 0 then .string nm else if j = 1 then .int .i64 runs else if j = 2 then .int .i64 total else if j = 3 then .int .i64 lo else .int .i64 hi

theorem new_any (w : World) : Calls Tryf.prog 10 #[] w fun e w' => e = .returned (.pointer (some ⟨w.heap.size, 0, none⟩)) ∧ w'.rowIs w.heap.size 32 5 (meas ByteArray.empty 0 0 0 0) ∧ Below w.heap.size w w' := by
  have hfin : (w.alloc (.cells #[.string ByteArray.empty, .int .i64 0, .int .i64 0, .int .i64 0, .int .i64 0] 32)).rowIs w.heap.size 32 5 (meas ByteArray.empty 0 0 0 0) :=
    World.rowIs_alloc w #[.string ByteArray.empty, .int .i64 0, .int .i64 0, .int .i64 0, .int .i64 0] 32 _ (by
      intro i hi
      match i, hi with
      | 0, _ => simp [meas]
      | 1, _ => simp [meas]
      | 2, _ => simp [meas]
      | 3, _ => simp [meas]
      | 4, _ => simp [meas])
  have HF : Hid ((w.alloc (.cells #[.string ByteArray.empty, .int .i64 0, .int .i64 0, .int .i64 0, .int .i64 0] 32)).rowIs w.heap.size 32 5 (meas ByteArray.empty 0 0 0 0)) := hfin
  clear hfin
  go_enter Tryf.func10, Tryf.ntmps10
  go_wp2
  go_ret
  exact ⟨rfl, HF.out, (Below.refl _ _).alloc (Nat.le_refl _) _⟩

theorem meas_end {w : World} {mb : Nat} {nm : ByteArray} {runs total lo hi r2 t2 l2 h2 : Int} (h : w.rowIs mb 32 5 (meas nm runs total lo hi)) :
    ((((w.setCell ⟨mb, 3, none⟩ (.int .i64 l2)).setCell ⟨mb, 4, none⟩ (.int .i64 h2)).setCell ⟨mb, 2, none⟩ (.int .i64 t2)).setCell ⟨mb, 1, none⟩ (.int .i64 r2)).rowIs mb 32 5 (meas nm r2 t2 l2 h2) := by
  refine ((((h.set 3 _).set 4 _).set 2 _).set 1 _).congr (fun i hi => ?_)
  match i, hi with
  | 0, _ => simp [meas]
  | 1, _ => simp [meas]
  | 2, _ => simp [meas]
  | 3, _ => simp [meas]
  | 4, _ => simp [meas]
theorem meas_lo {w : World} {mb : Nat} {nm : ByteArray} {runs total lo hi r2 t2 l2 : Int} (h : w.rowIs mb 32 5 (meas nm runs total lo hi)) :
    (((w.setCell ⟨mb, 3, none⟩ (.int .i64 l2)).setCell ⟨mb, 2, none⟩ (.int .i64 t2)).setCell ⟨mb, 1, none⟩ (.int .i64 r2)).rowIs mb 32 5 (meas nm r2 t2 l2 hi) := by
  refine (((h.set 3 _).set 2 _).set 1 _).congr (fun i hi => ?_)
  match i, hi with
  | 0, _ => simp [meas]
  | 1, _ => simp [meas]
  | 2, _ => simp [meas]
  | 3, _ => simp [meas]
  | 4, _ => simp [meas]
theorem meas_hi {w : World} {mb : Nat} {nm : ByteArray} {runs total lo hi r2 t2 h2 : Int} (h : w.rowIs mb 32 5 (meas nm runs total lo hi)) :
    (((w.setCell ⟨mb, 4, none⟩ (.int .i64 h2)).setCell ⟨mb, 2, none⟩ (.int .i64 t2)).setCell ⟨mb, 1, none⟩ (.int .i64 r2)).rowIs mb 32 5 (meas nm r2 t2 lo h2) := by
  refine (((h.set 4 _).set 2 _).set 1 _).congr (fun i hi => ?_)
  match i, hi with
  | 0, _ => simp [meas]
  | 1, _ => simp [meas]
  | 2, _ => simp [meas]
  | 3, _ => simp [meas]
  | 4, _ => simp [meas]
theorem meas_no {w : World} {mb : Nat} {nm : ByteArray} {runs total lo hi r2 t2 : Int} (h : w.rowIs mb 32 5 (meas nm runs total lo hi)) :
    ((w.setCell ⟨mb, 2, none⟩ (.int .i64 t2)).setCell ⟨mb, 1, none⟩ (.int .i64 r2)).rowIs mb 32 5 (meas nm r2 t2 lo hi) := by
  refine ((h.set 2 _).set 1 _).congr (fun i hi => ?_)
  match i, hi with
  | 0, _ => simp [meas]
  | 1, _ => simp [meas]
  | 2, _ => simp [meas]
  | 3, _ => simp [meas]
  | 4, _ => simp [meas]

theorem below_no {w : World} {mb : Nat} {x y : Value} : Below mb w ((w.setCell ⟨mb, 2, none⟩ x).setCell ⟨mb, 1, none⟩ y) := ((Below.refl mb w).setCell (p := ⟨mb, 2, none⟩) (Nat.le_refl _) x).setCell (p := ⟨mb, 1, none⟩) (Nat.le_refl _) y
theorem below_lo {w : World} {mb : Nat} {u x y : Value} : Below mb w (((w.setCell ⟨mb, 3, none⟩ u).setCell ⟨mb, 2, none⟩ x).setCell ⟨mb, 1, none⟩ y) := ((Below.refl mb w).setCell (p := ⟨mb, 3, none⟩) (Nat.le_refl _) u).trans below_no
theorem below_hi {w : World} {mb : Nat} {u x y : Value} : Below mb w (((w.setCell ⟨mb, 4, none⟩ u).setCell ⟨mb, 2, none⟩ x).setCell ⟨mb, 1, none⟩ y) := ((Below.refl mb w).setCell (p := ⟨mb, 4, none⟩) (Nat.le_refl _) u).trans below_no
theorem below_end {w : World} {mb : Nat} {t u x y : Value} : Below mb w ((((w.setCell ⟨mb, 3, none⟩ t).setCell ⟨mb, 4, none⟩ u).setCell ⟨mb, 2, none⟩ x).setCell ⟨mb, 1, none⟩ y) := ((Below.refl mb w).setCell (p := ⟨mb, 3, none⟩) (Nat.le_refl _) t).trans below_hi

/-- What Add leaves. -/
def Added (w : World) (mb : Nat) (nm : ByteArray) (runs total lo hi v : Int) (e : Ending) (w' : World) : Prop :=
  e = .returned (.tuple #[]) ∧ w'.rowIs mb 32 5 (meas nm (runs + 1) (total + v) (if runs = 0 ∨ v < lo then v else lo) (if runs = 0 ∨ hi < v then v else hi)) ∧ Below mb w w'

set_option maxHeartbeats 1600000 in
theorem add_any (mb : Nat) (nm : ByteArray) (runs total lo hi v : Int) (w : World) (h : w.rowIs mb 32 5 (meas nm runs total lo hi)) (hr0 : 0 ≤ runs) (hr : runs ≤ 1048576) (ht1 : -9223372036854775808 ≤ total + v) (ht2 : total + v ≤ 9223372036854775807) :
    Calls Tryf.prog 11 #[.pointer (some ⟨mb, 0, none⟩), .int .i64 v] w (Added w mb nm runs total lo hi v) := by
  have c0 := h.cell (i := 0) (by omega)
  have c1 := h.cell (i := 1) (by omega)
  have c2 := h.cell (i := 2) (by omega)
  have c3 := h.cell (i := 3) (by omega)
  have c4 := h.cell (i := 4) (by omega)
  simp only [meas, if_true, Nat.succ_ne_zero, if_false, Nat.reduceEqDiff] at c0 c1 c2 c3 c4
  have f1 := h.frozen 1
  have f2 := h.frozen 2
  have f3 := h.frozen 3
  have f4 := h.frozen 4
  have fin : ∀ (W : World) (l2 h2 : Int), W.rowIs mb 32 5 (meas nm (runs + 1) (total + v) l2 h2) → Below mb w W → l2 = (if runs = 0 ∨ v < lo then v else lo) → h2 = (if runs = 0 ∨ hi < v then v else hi) → Added w mb nm runs total lo hi v (.returned (.tuple #[])) W :=
    fun W l2 h2 hw hb e1 e2 => ⟨rfl, by rw [← e1, ← e2]; exact hw, hb⟩
  have FIN : Hid (∀ (W : World) (l2 h2 : Int), W.rowIs mb 32 5 (meas nm (runs + 1) (total + v) l2 h2) → Below mb w W → l2 = (if runs = 0 ∨ v < lo then v else lo) → h2 = (if runs = 0 ∨ hi < v then v else hi) → Added w mb nm runs total lo hi v (.returned (.tuple #[])) W) := fin
  have H : Hid (w.rowIs mb 32 5 (meas nm runs total lo hi)) := h
  clear fin h
  have hsg : 0 < v ∨ v < 0 ∨ (0 ≤ v ∧ v ≤ 0) := by omega
  by_cases hz : runs = 0
  · subst hz
    have EL : Hid (v = (if (0 : Int) = 0 ∨ v < lo then v else lo)) := by simp [Hid]
    have EH : Hid (v = (if (0 : Int) = 0 ∨ hi < v then v else hi)) := by simp [Hid]
    rcases hsg with hsg | hsg | ⟨hsg, hsg2⟩
    all_goals
      go_enter Tryf.func11, Tryf.ntmps11
      go_wp2
      go_end0
      exact FIN.out _ v v (meas_end H.out) below_end EL.out EH.out
  · have hz' : (runs == 0) = false := by simpa using hz
    by_cases q1 : v < lo <;> by_cases q2 : hi < v
    · have EL : Hid (v = (if runs = 0 ∨ v < lo then v else lo)) := (if_pos (Or.inr q1)).symm
      have EH : Hid (v = (if runs = 0 ∨ hi < v then v else hi)) := (if_pos (Or.inr q2)).symm
      clear hz
      rcases hsg with hsg | hsg | ⟨hsg, hsg2⟩
      all_goals
        go_enter Tryf.func11, Tryf.ntmps11
        go_wp2
        go_end0
        exact FIN.out _ v v (meas_end H.out) below_end EL.out EH.out
    · have EL : Hid (v = (if runs = 0 ∨ v < lo then v else lo)) := (if_pos (Or.inr q1)).symm
      have EH : Hid (hi = (if runs = 0 ∨ hi < v then v else hi)) := (if_neg (fun e => e.elim hz q2)).symm
      clear hz
      rcases hsg with hsg | hsg | ⟨hsg, hsg2⟩
      all_goals
        go_enter Tryf.func11, Tryf.ntmps11
        go_wp2
        go_end0
        exact FIN.out _ v hi (meas_lo H.out) below_lo EL.out EH.out
    · have EL : Hid (lo = (if runs = 0 ∨ v < lo then v else lo)) := (if_neg (fun e => e.elim hz q1)).symm
      have EH : Hid (v = (if runs = 0 ∨ hi < v then v else hi)) := (if_pos (Or.inr q2)).symm
      clear hz
      rcases hsg with hsg | hsg | ⟨hsg, hsg2⟩
      all_goals
        go_enter Tryf.func11, Tryf.ntmps11
        go_wp2
        go_end0
        exact FIN.out _ lo v (meas_hi H.out) below_hi EL.out EH.out
    · have EL : Hid (lo = (if runs = 0 ∨ v < lo then v else lo)) := (if_neg (fun e => e.elim hz q1)).symm
      have EH : Hid (hi = (if runs = 0 ∨ hi < v then v else hi)) := (if_neg (fun e => e.elim hz q2)).symm
      clear hz
      rcases hsg with hsg | hsg | ⟨hsg, hsg2⟩
      all_goals
        go_enter Tryf.func11, Tryf.ntmps11
        go_wp2
        go_end0
        exact FIN.out _ lo hi (meas_no H.out) below_no EL.out EH.out

end Go.Proofs.Qxb6631318aFmt
