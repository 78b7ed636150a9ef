import Derived.Test.Qxb6631318aFmtLawB2
namespace Go.Proofs.Qxb6631318aFmt
open Go.RowKit

theorem lawB_out (a : Option Addr) (len cap : Nat) (k : Int) (w : World) (hml : len ≤ maxLen) (hk : k < 0 ∨ (0 ≤ k ∧ (len : Int) < k)) :
    Calls Tryf.prog 4 #[.slice a len cap, .int .i64 k] w fun e w' => e = .returned (.bool true) ∧ Below w.heap.size w w' := by
  rcases hk with hk | ⟨hk0, hk⟩
  all_goals
    go_enter Tryf.func4, Tryf.ntmps4
    go_wp2_with fail
    refine (bytes9_any _ len _ _ _ hml).mono ?_
    rintro e w ⟨t, rfl, rfl, ht⟩
    cases t
    · go_wp2
      go_ret
      exact ⟨rfl, Below.refl _ _⟩
    have hl := ht rfl
    clear ht
    by_cases hl2 : (131072 : Int) < (len : Int)
    · go_wp2
      go_ret
      exact ⟨rfl, Below.refl _ _⟩
    go_wp2
    go_ret
    exact ⟨rfl, Below.refl _ _⟩

theorem whole_eq (Z : Nat → Int) (k tl : Nat) (LO HI : Int) (h1 : loOf Z (k + tl) = LO) (h2 : hiOf Z (k + tl) = HI) :
    measOf Z (k + tl) = meas ByteArray.empty (((k : Nat) : Int) + ((tl : Nat) : Int)) (psum Z k + psum (fun i => Z (k + i)) tl) LO HI := by
  unfold measOf
  rw [h1, h2, psum_parts, Int.natCast_add]

theorem cases_of (Z : Nat → Int) (k tl : Nat) : Cases k tl (loOf Z k) (hiOf Z k) (loOf (fun i => Z (k + i)) tl) (hiOf (fun i => Z (k + i)) tl) (loOf Z (k + tl)) (hiOf Z (k + tl)) := by
  unfold Cases
  by_cases hk : k = 0
  · subst hk
    have e : (fun i => Z (0 + i)) = Z := by funext i; rw [Nat.zero_add]
    rw [e, Nat.zero_add]
    by_cases ht : tl = 0
    · subst ht
      exact Or.inl ⟨rfl, rfl, rfl, rfl⟩
    · exact Or.inr (Or.inl ⟨rfl, by omega, rfl, rfl⟩)
  · cases tl with
    | zero => exact Or.inr (Or.inr (Or.inl ⟨by omega, rfl, rfl, rfl⟩))
    | succ n => exact Or.inr (Or.inr (Or.inr ⟨by omega, by omega, loOf_parts Z k (by omega) n, hiOf_parts Z k (by omega) n⟩))

theorem lawB (a : Option Addr) (len cap : Nat) (Z : Nat → Int) (k : Int) (w : World) (hlc : len ≤ cap) (hcm : cap ≤ maxLen)
    (ha : cap ≤ 0 ∨ ∃ b off, a = some ⟨b, off, none⟩ ∧ ∀ i, i < len → w.cell? ⟨b, off + i, none⟩ = some (.int .i64 (Z i))) (hf : ∀ i, i < len → Fits64 (Z i)) :
    Calls Tryf.prog 4 #[.slice a len cap, .int .i64 k] w fun e w' => e = .returned (.bool true) ∧ Below w.heap.size w w' := by
  by_cases hk0 : k < 0
  · exact lawB_out a len cap k w (by omega) (Or.inl hk0)
  by_cases hk1 : (len : Int) < k
  · exact lawB_out a len cap k w (by omega) (Or.inr ⟨by omega, hk1⟩)
  obtain ⟨kn, rfl⟩ := Int.eq_ofNat_of_zero_le (show 0 ≤ k by omega)
  have hkl : kn ≤ len := by omega
  rcases ha with ha | ⟨b, off, rfl, hc⟩
  · obtain rfl : cap = 0 := by omega
    obtain rfl : len = 0 := by omega
    obtain rfl : kn = 0 := by omega
    exact lawB_a a w
  · by_cases hck : cap = kn
    · obtain rfl : len = kn := by omega
      subst hck
      by_cases hp : 0 < cap
      · have hI : IntsAt w (some ⟨b, off, none⟩) cap Z := ⟨Or.inr ⟨b, off, rfl, hc⟩, hf⟩
        exact lawB_b b off cap Z (fun _ => 0) w hcm hp hI hI ⟨Or.inl (Nat.le_refl _), fun i hi => by omega⟩
      · obtain rfl : cap = 0 := by omega
        exact lawB_a _ w
    · obtain ⟨tl, rfl⟩ : ∃ tl, len = kn + tl := ⟨len - kn, by omega⟩
      exact lawB_c b off cap kn tl Z (fun i => Z (kn + i)) (loOf Z (kn + tl)) (hiOf Z (kn + tl)) w hlc hcm hck
        ⟨Or.inr ⟨b, off, rfl, hc⟩, hf⟩ ⟨Or.inr ⟨b, off, rfl, fun i hi => hc i (by omega)⟩, fun i hi => hf i (by omega)⟩
        ⟨Or.inr ⟨b, off + kn, rfl, fun i hi => by have := hc (kn + i) (by omega); rwa [← Nat.add_assoc] at this⟩, fun i hi => hf (kn + i) (by omega)⟩
        (psum_parts Z kn tl) (whole_eq Z kn tl _ _ rfl rfl) (cases_of Z kn tl)

end Go.Proofs.Qxb6631318aFmt
