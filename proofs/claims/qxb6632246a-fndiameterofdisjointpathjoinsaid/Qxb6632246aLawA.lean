import Derived.Test.Qxb6632246aFloydWalk
namespace Go.Proofs.Qxb6632246a
open Go.RowKit

/-- zzToLinks, whatever the slice. -/
theorem copy_any (aa : Option Addr) (ab ao al ac : Nat) (R : Nat → RowG) (w : World) (hal : al ≤ 1048576) (hnil : aa = none → al = 0) (hsm : ∀ i, i < al → (R i).rl ≤ 1048576) (hg : GridAt w aa ab ao al R) :
    Calls Try.prog 8 #[.slice aa al ac] w (AnsCopy w al R) := by
  cases aa with
  | none =>
    obtain rfl := hnil rfl
    exact copy_nil ac R w
  | some a0 => exact copy_some a0 ab ao al ac R w hal hsm hg

abbrev netBox (na : Option Addr) (nl nc : Nat) (la : Option Addr) (al lc : Nat) : Obj := .cells #[.slice na nl nc, .slice la al lc] 29

set_option maxHeartbeats 1600000 in
theorem lawA (na : Option Addr) (nb no nl nc : Nat) (S : Nat → ByteArray) (aa : Option Addr) (ab ao al ac : Nat) (R : Nat → RowG) (w : World) (hnl : nl ≤ maxLen) (hal : al ≤ maxLen) (hnil : aa = none → al = 0) (hn : NamesAt w na nb no nl S) (hg : GridAt w aa ab ao al R) :
    Calls Try.prog 3 #[.slice na nl nc, .slice aa al ac] w fun e w' => e = .returned (.bool true) ∧ Below w.heap.size w w' := by
  have HNIL : Hid (aa = none → al = 0) := hnil
  clear hnil
  go_enter Try.func3, Try.ntmps3
  go_wp2_with fail
  refine (bytes5_any na nb no nl nc S aa ab ao al ac R _ hnl hal hn hg).mono ?_
  rintro e w ⟨t, rfl, rfl, ht⟩
  cases t
  · go_wp2
    go_ret
    exact ⟨rfl, Below.refl _ _⟩
  have hsm : SmallG nl al R := ht rfl
  clear ht
  go_wp2_with fail
  refine (over6_any na nb no nl nc S aa ab ao al ac R _ hsm hn hg).mono ?_
  rintro e w ⟨t, rfl, rfl⟩
  cases t
  case true =>
    go_wp2
    go_ret
    exact ⟨rfl, Below.refl _ _⟩
  by_cases h256 : (256 : Int) < (nl : Int)
  · go_wp2
    go_ret
    exact ⟨rfl, Below.refl _ _⟩
  go_wp2_with fail
  refine (dom7_any na nl nc aa ab ao al ac R _ hsm hg).mono ?_
  rintro e w1 ⟨t, rfl, hb1, hd⟩
  cases t
  · clear hd
    have HB1 : Hid (Below w.heap.size w w1) := hb1
    clear hb1
    go_wp2
    go_ret
    exact ⟨rfl, HB1.out⟩
  have hdom : Dom nl al R := hd rfl
  clear hd
  have hg1 := hg.kept (kept_of_below hb1)
  go_wp2_with fail
  refine (copy_any aa ab ao al ac R _ hsm.2.1 HNIL.out hsm.2.2 hg1).mono ?_
  rintro e w2 ⟨la, lb, B, rfl, hgL, hb2⟩
  have hb12 : Below w.heap.size w w2 := hb1.trans (hb2.mono hb1.size)
  have hbB : Below w2.heap.size w2 (w2.alloc (netBox na nl nc la al al)) := (Below.refl _ _).alloc (Nat.le_refl _) _
  have hgL2 := hgL.kept (kept_of_below hbB)
  have hgA2 := (hg1.kept (kept_of_below hb2)).kept (kept_of_below hbB)
  have hbn : Below w.heap.size w (w2.alloc (netBox na nl nc la al al)) := hb12.trans (hbB.mono hb12.size)
  go_wp2_with fail
  refine (diam_any w2.heap.size na nl nc la lb 0 al al (fun j => copyRow (R j) (B j)) _ (by omega) hdom.1 hsm.2.1 (fun i hi => hsm.2.2 i (by have := hdom.1; omega)) hdom.2 (by simp) (by simp) hgL2).mono ?_
  rintro e w3 ⟨D, rfl, hD, hb3⟩
  have hgA3 := hgA2.kept (kept_of_below hb3)
  have hbn3 : Below w.heap.size w w3 := hbn.trans (hb3.mono hbn.size)
  go_wp2_with fail
  refine (model_any nl aa ab ao al ac R _ (by omega) hsm.2.1 hsm.2.2 hdom hgA3).mono ?_
  rintro e w4 ⟨E, rfl, hE, hb4⟩
  have hDE : D = E := IsDiam.unique (G := Edge R) hD hE
  subst hDE
  have HB : Hid (Below w.heap.size w w4) := hbn3.trans (hb4.mono hbn3.size)
  clear hb1 hb2 hb3 hb4 hb12 hbB hbn hbn3 hgL hgL2 hgA2 hgA3 hg1 hg hn hD hE hsm hdom
  go_wp2
  go_ret
  exact ⟨rfl, HB.out⟩

end Go.Proofs.Qxb6632246a
