import Derived.Test.Qxb6631263aLawA
import Derived.ProofKit
import Derived.OpenShut
import Derived.Deep.Slices
import Derived.Deep.Strs
namespace Go.Proofs.Qxb6631263a
open Go.RowKit Go.ChangeShapes Go.WideShapes Go.Deep

theorem cells34 : Try.prog.cellsOf 34 = 3 := by kernel_rfl
theorem cells9 : Try.prog.cellsOf 9 = 1 := by kernel_rfl
theorem cells28 : Try.prog.cellsOf 28 = 1 := by kernel_rfl
theorem cells2 : Try.prog.cellsOf 2 = 1 := by kernel_rfl
section
variable {H : Type} {enc : TypeId × Value → H} {W : World} {base : Nat} {held : Bool}

theorem row_of_trod {n : Nat} {cs : List Value} {y : DataW H × List MemPlace} (h : DataW.trod enc Try.prog W base (fun _ => true) held n 34 cs = some y) :
    ∃ r : RowD, cs = [.string r.id, .slice r.ca r.cl r.cc, .int .i64 r.past] ∧ CfgAt W r ∧ r.id.size ≤ maxLen ∧ r.cl ≤ maxLen := by
  obtain ⟨y0, y1, y2, m, _, hl, t0, t1, t2⟩ := trod_struct3 Try.underlying34 h
  rw [cells34] at hl
  match cs, hl with
  | [c0, c1, c2], _ =>
    simp [cells9, cells28, cells2] at t0 t1 t2
    obtain ⟨s, e0, _, hs⟩ := DataW.trod_string Try.underlying9 t0
    obtain ⟨p, e2, _, _⟩ := DataW.trod_int Try.underlying2 t2
    simp at e0 e2
    subst e0 e2
    rcases open_ints Try.underlying28 Try.underlying2 cells2 t1 with ⟨hcs, _⟩ | ⟨a, l, c, zs, hcs, _, hl, hm, hz, _, hcell, hwz⟩
    · simp at hcs
      subst hcs
      exact ⟨⟨s, none, 0, 0, [], p⟩, rfl, ⟨rfl, Nat.le_refl _, fun h => by simp at h⟩, hs, Nat.zero_le _⟩
    · simp at hcs
      subst hcs
      simp only [if_true] at hz
      refine ⟨⟨s, some a, l, c, zs.take l, p⟩, rfl, ⟨by simp; omega, hl, fun h => ?_⟩, hs, by simp only; omega⟩
      simp only at h
      obtain ⟨b, off, rfl, hc⟩ := ints_at hcell (by omega)
      refine ⟨b, off, rfl, fun j hj => ?_⟩
      simp only at hj
      rw [hc j (by omega)]
      simp [hj]

theorem rows_of_trod {fuel : Nat} {a : Option Addr} {len cap : Nat} {y : DataW H × List MemPlace} (h : DataW.trod enc Try.prog W base (fun _ => true) held fuel 22 [.slice a len cap] = some y) :
    ∃ R : Nat → RowD, RowsAt W a len R ∧ len ≤ maxLen := by
  rcases open_slice Try.underlying22 h with ⟨hcs, _⟩ | ⟨ad, l, c, m, n, D, Pl, hcs, _, hl, hm, hmm, _, hx⟩
  · simp at hcs
    obtain ⟨rfl, rfl, rfl⟩ := hcs
    exact ⟨fun _ => ⟨ByteArray.empty, none, 0, 0, [], 0⟩, ⟨fun h => by omega, fun i h => by omega⟩, Nat.zero_le _⟩
  · simp at hcs
    obtain ⟨rfl, rfl, rfl⟩ := hcs
    simp only [if_true] at hmm
    rw [cells34] at hx
    have each : ∀ i, i < len → ∃ r : RowD, W.cell? (ad.add (i * 3)) = some (.string r.id) ∧ W.cell? ((ad.add (i * 3)).add 1) = some (.slice r.ca r.cl r.cc) ∧ W.cell? ((ad.add (i * 3)).add 2) = some (.int .i64 r.past) ∧ CfgAt W r := by
      intro i hi
      obtain ⟨cs, h1, h2⟩ := hx i (by omega)
      obtain ⟨r, rfl, hr, _⟩ := row_of_trod h2
      obtain ⟨_, _, hc⟩ := World.cells?_some h1
      have q0 := hc 0 (by omega)
      have q1 := hc 1 (by omega)
      have q2 := hc 2 (by omega)
      rw [add_add] at q0
      exact ⟨r, by simpa using q0, by simpa using q1, by simpa using q2, hr⟩
    by_cases h0 : 0 < len
    · obtain ⟨r0, z0, _⟩ := each 0 h0
      obtain ⟨b, off, spot⟩ := ad
      have hspot : spot = none := by simpa [Addr.add] using World.cell?_spot z0
      subst hspot
      obtain ⟨R, hR⟩ := @choose_lt RowD ⟨r0⟩ len _ each
      refine ⟨R, ⟨fun _ => ⟨b, off, rfl, fun i hi => ?_⟩, fun i hi => (hR i hi).2.2.2⟩, by omega⟩
      obtain ⟨q0, q1, q2, _⟩ := hR i hi
      rw [add_plain] at q0
      rw [add_plain, add_plain] at q1 q2
      exact ⟨q0, q1, q2⟩
    · exact ⟨fun _ => ⟨ByteArray.empty, none, 0, 0, [], 0⟩, ⟨fun h => by omega, fun i h => by omega⟩, by omega⟩
end
end Go.Proofs.Qxb6631263a
