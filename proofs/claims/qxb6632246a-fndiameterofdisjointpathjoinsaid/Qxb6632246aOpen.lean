import Derived.Test.Qxb6632246aData
import Derived.ProofKit
import Derived.OpenShut
import Derived.SliceStrings
import Derived.Deep.Slices
import Derived.Deep.Strs
namespace Go.Proofs.Qxb6632246a
open Go.RowKit Go.ChangeShapes Go.WideShapes Go.Deep

theorem cells37 : Try.prog.cellsOf 37 = 2 := by kernel_rfl
theorem cells33 : Try.prog.cellsOf 33 = 1 := by kernel_rfl
theorem cells35 : Try.prog.cellsOf 35 = 1 := by kernel_rfl
theorem cells3 : Try.prog.cellsOf 3 = 1 := by kernel_rfl
theorem cells9 : Try.prog.cellsOf 9 = 1 := by kernel_rfl
section
variable {H : Type} {enc : TypeId × Value → H} {W : World} {base : Nat} {held : Bool}

theorem names_of_trod {fuel : Nat} {a : Option Addr} {len cap : Nat} {y : DataW H × List MemPlace} (h : DataW.trod enc Try.prog W base (fun _ => true) held fuel 22 [.slice a len cap] = some y) :
    ∃ (nb no : Nat) (S : Nat → ByteArray), NamesAt W a nb no len S ∧ len ≤ maxLen := by
  rcases open_strings Try.underlying22 Try.underlying9 cells9 h with ⟨hcs, _⟩ | ⟨x, l, c, ss, hcs, _, hl, hm, hz, _, hcell, _⟩
  · simp at hcs
    obtain ⟨rfl, rfl, rfl⟩ := hcs
    exact ⟨0, 0, fun _ => ByteArray.empty, ⟨Or.inl (Nat.le_refl _), fun i hi => by omega⟩, Nat.zero_le _⟩
  · simp at hcs
    obtain ⟨rfl, rfl, rfl⟩ := hcs
    simp only [if_true] at hz
    by_cases h0 : 0 < len
    · obtain ⟨b, off, spot⟩ := x
      have hspot : spot = none := by simpa [Addr.add] using World.cell?_spot (hcell 0 (by omega))
      subst hspot
      refine ⟨b, off, fun i => ss.getD i ByteArray.empty, ⟨Or.inr rfl, fun i hi => ?_⟩, by omega⟩
      have := hcell i (by omega)
      rwa [add_plain] at this
    · exact ⟨0, 0, fun _ => ByteArray.empty, ⟨Or.inl (by omega), fun i hi => by omega⟩, by omega⟩

theorem float_of_trod {n : Nat} {cs : List Value} {y : DataW H × List MemPlace} (h : DataW.trod enc Try.prog W base (fun _ => true) held n 35 cs = some y) : ∃ b, cs = [.float .f64 b] := by
  cases n with
  | zero => simp [DataW.trod] at h
  | succ n =>
    unfold DataW.trod at h
    rw [Try.underlying35] at h
    split at h <;> simp_all

theorem arc_of_trod {n : Nat} {cs : List Value} {y : DataW H × List MemPlace} (h : DataW.trod enc Try.prog W base (fun _ => true) held n 37 cs = some y) : ∃ (x : Int) (b : Nat), cs = [.int .i64 x, .float .f64 b] := by
  obtain ⟨y0, y1, m, _, hl, t0, t1⟩ := trod_struct2 Try.underlying37 h
  rw [cells37] at hl
  match cs, hl with
  | [c0, c1], _ =>
    simp [cells3, cells35] at t0 t1
    obtain ⟨x, e0, _, _⟩ := DataW.trod_int Try.underlying3 t0
    obtain ⟨b, e1⟩ := float_of_trod t1
    simp at e0 e1
    subst e0 e1
    exact ⟨x, b, rfl⟩

theorem row_of_trod {n : Nat} {v : Value} {y : DataW H × List MemPlace} (h : DataW.trod enc Try.prog W base (fun _ => true) held n 33 [v] = some y) : ∃ r : RowG, v = .slice r.ra r.rl r.rc ∧ ArcsAt W r := by
  rcases open_slice Try.underlying33 h with ⟨hcs, _⟩ | ⟨ad, l, c, m, k, D, Pl, hcs, _, hl, hm, hmm, _, hx⟩
  · simp at hcs
    subst hcs
    exact ⟨⟨none, 0, 0, 0, 0, fun _ => 0, fun _ => 0⟩, rfl, ⟨Or.inl (Nat.le_refl _), fun _ => rfl, fun c hc => by simp at hc⟩⟩
  · simp at hcs
    subst hcs
    simp only [if_true] at hmm
    rw [cells37] at hx
    have each : ∀ i, i < l → ∃ p : Int × Nat, W.cell? (ad.add (i * 2)) = some (.int .i64 p.1) ∧ W.cell? ((ad.add (i * 2)).add 1) = some (.float .f64 p.2) := by
      intro i hi
      obtain ⟨cs, h1, h2⟩ := hx i (by omega)
      obtain ⟨x, b, rfl⟩ := arc_of_trod h2
      obtain ⟨_, _, hc⟩ := World.cells?_some h1
      have q0 := hc 0 (by omega)
      have q1 := hc 1 (by omega)
      rw [add_add] at q0
      exact ⟨(x, b), by simpa using q0, by simpa using q1⟩
    by_cases h0 : 0 < l
    · obtain ⟨p0, z0, _⟩ := each 0 h0
      obtain ⟨b, off, spot⟩ := ad
      have hspot : spot = none := by simpa [Addr.add] using World.cell?_spot z0
      subst hspot
      obtain ⟨F, hF⟩ := choose_lt each
      refine ⟨⟨some ⟨b, off, none⟩, b, off, l, c, fun i => (F i).1, fun i => (F i).2⟩, rfl, ⟨Or.inr rfl, (fun h => by cases h), fun i hi => ?_⟩⟩
      obtain ⟨q0, q1⟩ := hF i hi
      rw [add_plain] at q0
      rw [add_plain, add_plain] at q1
      exact ⟨q0, q1⟩
    · refine ⟨⟨some ad, 0, 0, l, c, fun _ => 0, fun _ => 0⟩, rfl, ⟨Or.inl (by simp only; omega), (fun h => by cases h), fun i hi => by simp only at hi; omega⟩⟩

theorem grid_of_trod {fuel : Nat} {a : Option Addr} {len cap : Nat} {y : DataW H × List MemPlace} (h : DataW.trod enc Try.prog W base (fun _ => true) held fuel 23 [.slice a len cap] = some y) :
    ∃ (gb go : Nat) (R : Nat → RowG), GridAt W a gb go len R ∧ len ≤ maxLen ∧ (a = none → len = 0) := by
  rcases open_slice1 Try.underlying23 cells33 h with ⟨hcs, _⟩ | ⟨ad, l, c, m, k, V, D, Pl, hcs, _, hl, hm, hmm, _, hx⟩
  · simp at hcs
    obtain ⟨rfl, rfl, rfl⟩ := hcs
    exact ⟨0, 0, fun _ => ⟨none, 0, 0, 0, 0, fun _ => 0, fun _ => 0⟩, ⟨Or.inl (Nat.le_refl _), fun i hi => by omega, fun i hi => by omega⟩, Nat.zero_le _, fun _ => rfl⟩
  · simp at hcs
    obtain ⟨rfl, rfl, rfl⟩ := hcs
    simp only [if_true] at hmm
    have each : ∀ i, i < len → ∃ r : RowG, W.cell? (ad.add i) = some (.slice r.ra r.rl r.rc) ∧ ArcsAt W r := by
      intro i hi
      obtain ⟨h1, h2⟩ := hx i (by omega)
      obtain ⟨r, hr, ha⟩ := row_of_trod h2
      exact ⟨r, by rw [h1, hr], ha⟩
    by_cases h0 : 0 < len
    · obtain ⟨r0, z0, _⟩ := each 0 h0
      obtain ⟨b, off, spot⟩ := ad
      have hspot : spot = none := by simpa [Addr.add] using World.cell?_spot z0
      subst hspot
      obtain ⟨R, hR⟩ := @choose_lt RowG ⟨r0⟩ len _ each
      refine ⟨b, off, R, ⟨Or.inr rfl, fun i hi => ?_, fun i hi => (hR i hi).2⟩, by omega, (fun h => by cases h)⟩
      have := (hR i hi).1
      rwa [add_plain] at this
    · exact ⟨0, 0, fun _ => ⟨none, 0, 0, 0, 0, fun _ => 0, fun _ => 0⟩, ⟨Or.inl (by omega), fun i hi => by omega, fun i hi => by omega⟩, by omega, (fun h => by cases h)⟩
end
end Go.Proofs.Qxb6632246a
