import Derived.Test.Qxb6632246aData
namespace Go.Proofs.Qxb6632246a
open Go.RowKit
attribute [local go_sem] run_store_float

set_option maxHeartbeats 1600000 in
theorem bytes11_any (na : Option Addr) (nb no nl nc : Nat) (S : Nat → ByteArray) (aa : Option Addr) (ab ao al ac : Nat) (R : Nat → RowG) (mm : Int) (fr : Bool) (w : World) (hnl : nl ≤ maxLen) (hal : al ≤ maxLen) (hn : NamesAt w na nb no nl S) (hg : GridAt w aa ab ao al R) :
    Calls Try.prog 11 #[.slice na nl nc, .slice aa al ac, .int .i64 mm, .bool fr] w (AnsFit w nl al R) := by
  unfold maxLen at hnl hal
  have hnc := hn.cell
  have hnf := hn.form
  have hgc := hg.cell
  have hgf := hg.form
  have HN : Hid (∀ i, i < nl → w.cell? ⟨nb, no + i, none⟩ = some (.string (S i))) := hnc
  have HG : Hid (∀ i, i < al → w.cell? ⟨ab, ao + i, none⟩ = some (.slice (R i).ra (R i).rl (R i).rc)) := hgc
  have HNF : Hid (nl ≤ 0 ∨ na = some ⟨nb, no, none⟩) := hnf
  have HGF : Hid (al ≤ 0 ∨ aa = some ⟨ab, ao, none⟩) := hgf
  clear hnc hgc hnf hgf hn hg
  by_cases hs : (1048576 : Int) < (nl : Int)
  · go_enter Try.func11, Try.ntmps11
    go_wp2
    go_ret
    exact AnsFit.no w nl al R
  go_enter Try.func11, Try.ntmps11
  go_wp2
  go_loop [9, 10] (fun t i => ∃ (k : Nat) (n : Int), k ≤ nl ∧ i = .int .i64 k ∧ t = .int .i64 n ∧ n ≤ 1048576 ∧ 0 ≤ n) (fun _ i => nl - (intOf i).toNat)
  case atStart => exact ⟨0, nl, Nat.zero_le _, rfl, rfl, by omega, by omega⟩
  case round =>
    obtain ⟨k, n, hk, rfl, rfl, hn1, hn0⟩ := hrel
    by_cases hlt : k < nl
    · obtain rfl : na = some ⟨nb, no, none⟩ := HNF.out.resolve_left (by omega)
      have c1 := HN.out k hlt
      by_cases q1 : (1048576 : Int) < ((S k).size : Int)
      · go_wp2
        go_ret
        exact AnsFit.no w nl al R
      by_cases q2 : (1048576 : Int) < n + ((S k).size : Int)
      · go_wp2
        go_ret
        exact AnsFit.no w nl al R
      go_wp2
      go_round
      case rel => exact ⟨k + 1, _, by omega, by go_num, rfl, by omega, by omega⟩
      case measure => simp [intOf]; omega
    · by_cases q1 : (1048576 : Int) < (al : Int)
      · go_wp2
        go_ret
        exact AnsFit.no w nl al R
      by_cases q2 : (1048576 : Int) < n + (al : Int)
      · go_wp2
        go_ret
        exact AnsFit.no w nl al R
      go_wp2
      go_loop [9, 11] (fun t i => ∃ (k : Nat) (n : Int), k ≤ al ∧ i = .int .i64 k ∧ t = .int .i64 n ∧ n ≤ 1048576 ∧ 0 ≤ n ∧ SmallTo k R) (fun _ i => al - (intOf i).toNat)
      case atStart => exact ⟨0, _, Nat.zero_le _, rfl, rfl, by omega, by omega, SmallTo.zero R⟩
      case round =>
        obtain ⟨m, n2, hm, rfl, rfl, hn2, hn3, hsm⟩ := hrel
        by_cases hlt2 : m < al
        · obtain rfl : aa = some ⟨ab, ao, none⟩ := HGF.out.resolve_left (by omega)
          have c1 := HG.out m hlt2
          by_cases q3 : (1048576 : Int) < ((R m).rl : Int)
          · go_wp2
            go_ret
            exact AnsFit.no w nl al R
          by_cases q4 : (1048576 : Int) < n2 + ((R m).rl : Int)
          · go_wp2
            go_ret
            exact AnsFit.no w nl al R
          go_wp2
          go_round
          case rel => exact ⟨m + 1, _, by omega, by go_num, rfl, by omega, by omega, hsm.succ (by omega)⟩
          case measure => simp [intOf]; omega
        · obtain rfl : al = m := by omega
          go_wp2
          go_ret
          exact AnsFit.yes w ⟨by omega, by omega, hsm⟩


set_option maxHeartbeats 1600000 in
theorem over6_any (na : Option Addr) (nb no nl nc : Nat) (S : Nat → ByteArray) (aa : Option Addr) (ab ao al ac : Nat) (R : Nat → RowG) (w : World) (hs : SmallG nl al R) (hn : NamesAt w na nb no nl S) (hg : GridAt w aa ab ao al R) :
    Calls Try.prog 6 #[.slice na nl nc, .slice aa al ac] w (AnsB w) := by
  obtain ⟨hnl, hal, hsm⟩ := hs
  have hnc := hn.cell
  have hnf := hn.form
  have hgc := hg.cell
  have hgf := hg.form
  have HN : Hid (∀ i, i < nl → w.cell? ⟨nb, no + i, none⟩ = some (.string (S i))) := hnc
  have HG : Hid (∀ i, i < al → w.cell? ⟨ab, ao + i, none⟩ = some (.slice (R i).ra (R i).rl (R i).rc)) := hgc
  have HNF : Hid (nl ≤ 0 ∨ na = some ⟨nb, no, none⟩) := hnf
  have HGF : Hid (al ≤ 0 ∨ aa = some ⟨ab, ao, none⟩) := hgf
  clear hnc hgc hnf hgf hn hg hsm
  go_enter Try.func6, Try.ntmps6
  go_wp2
  go_loop [5, 6] (fun t i => ∃ (k : Nat) (n : Int), k ≤ nl ∧ i = .int .i64 k ∧ t = .int .i64 n ∧ n ≤ 1048576 ∧ 0 ≤ n) (fun _ i => nl - (intOf i).toNat)
  case atStart => exact ⟨0, 0, Nat.zero_le _, rfl, rfl, by omega, by omega⟩
  case round =>
    obtain ⟨k, n, hk, rfl, rfl, hn1, hn0⟩ := hrel
    by_cases hlt : k < nl
    · obtain rfl : na = some ⟨nb, no, none⟩ := HNF.out.resolve_left (by omega)
      have c1 := HN.out k hlt
      by_cases q1 : (1048576 : Int) < ((S k).size : Int)
      · go_wp2
        go_ret
        exact AnsB.mk w true
      by_cases q2 : (1048576 : Int) < n + (16 + ((S k).size : Int))
      · go_wp2
        go_ret
        exact AnsB.mk w true
      go_wp2
      go_round
      case rel => exact ⟨k + 1, _, by omega, by go_num, rfl, by omega, by omega⟩
      case measure => simp [intOf]; omega
    · go_wp2
      go_loop [5, 7] (fun t i => ∃ (k : Nat) (n : Int), k ≤ al ∧ i = .int .i64 k ∧ t = .int .i64 n ∧ n ≤ 1048576 ∧ 0 ≤ n) (fun _ i => al - (intOf i).toNat)
      case atStart => exact ⟨0, _, Nat.zero_le _, rfl, rfl, by omega, by omega⟩
      case round =>
        obtain ⟨m, n2, hm, rfl, rfl, hn2, hn3⟩ := hrel
        by_cases hlt2 : m < al
        · obtain rfl : aa = some ⟨ab, ao, none⟩ := HGF.out.resolve_left (by omega)
          have c1 := HG.out m hlt2
          by_cases q3 : (1048576 : Int) < ((R m).rl : Int)
          · go_wp2
            go_ret
            exact AnsB.mk w true
          by_cases q4 : (1048576 : Int) < n2 + (24 + 16 * ((R m).rl : Int))
          · go_wp2
            go_ret
            exact AnsB.mk w true
          go_wp2
          go_round
          case rel => exact ⟨m + 1, _, by omega, by go_num, rfl, by omega, by omega⟩
          case measure => simp [intOf]; omega
        · go_wp2
          go_ret
          exact AnsB.mk w false

/-- The domain: a row for every node, and every arc of probability above 0 ends at a node. -/
def Dom (n al : Nat) (R : Nat → RowG) : Prop := n ≤ al ∧ ∀ i, i < n → ∀ c, c < (R i).rl → posB ((R i).pb c) = true → 0 ≤ (R i).to c ∧ (R i).to c < n
def AnsDom (w : World) (n al : Nat) (R : Nat → RowG) (e : Ending) (w' : World) : Prop := ∃ t : Bool, e = .returned (.bool t) ∧ Below w.heap.size w w' ∧ (t = true → Dom n al R)
theorem AnsDom.no {w w' : World} (n al : Nat) (R : Nat → RowG) (h : Below w.heap.size w w') : AnsDom w n al R (.returned (.bool false)) w' := ⟨false, rfl, h, fun h => by cases h⟩
theorem AnsDom.yes {w w' : World} {n al : Nat} {R : Nat → RowG} (h : Below w.heap.size w w') (hd : Dom n al R) : AnsDom w n al R (.returned (.bool true)) w' := ⟨true, rfl, h, fun _ => hd⟩

def RowDom (n : Nat) (r : RowG) (m : Nat) : Prop := ∀ c, c < m → posB (r.pb c) = true → 0 ≤ r.to c ∧ r.to c < n
theorem RowDom.zero (n : Nat) (r : RowG) : RowDom n r 0 := fun c hc => by omega
theorem RowDom.succ {n m : Nat} {r : RowG} (h : RowDom n r m) (h1 : posB (r.pb m) = true → 0 ≤ r.to m ∧ r.to m < n) : RowDom n r (m + 1) := fun c hc => by
  by_cases e : c = m
  · subst e; exact h1
  · exact h c (by omega)

set_option maxHeartbeats 1600000 in
theorem dom7_any (na : Option Addr) (nl nc : Nat) (aa : Option Addr) (ab ao al ac : Nat) (R : Nat → RowG) (w : World) (hs : SmallG nl al R) (hg : GridAt w aa ab ao al R) :
    Calls Try.prog 7 #[.slice na nl nc, .slice aa al ac] w (AnsDom w nl al R) := by
  obtain ⟨hnl, hal, hsm⟩ := hs
  have HG : Hid (GridAt w aa ab ao al R) := hg
  have HSM : Hid (∀ i, i < al → (R i).rl ≤ 1048576) := hsm
  clear hg hsm
  by_cases hd : (al : Int) < (nl : Int)
  · go_enter Try.func7, Try.ntmps7
    go_wp2
    go_ret
    exact AnsDom.no nl al R (Below.refl _ _)
  go_enter Try.func7, Try.ntmps7
  go_wp2
  go_loopw [6] (fun i wr => ∃ k : Nat, k ≤ nl ∧ i = .int .i64 k ∧ Below w.heap.size w wr ∧ ∀ i, i < k → RowDom nl (R i) (R i).rl) (fun i _ => nl - (intOf i).toNat)
  case atStart => exact ⟨0, Nat.zero_le _, rfl, Below.refl _ _, fun i hi => by omega⟩
  case round =>
    obtain ⟨k, hk, rfl, hb, hrd⟩ := hrel
    have HRD : Hid (∀ i, i < k → RowDom nl (R i) (R i).rl) := hrd
    clear hrd
    by_cases hlt : k < nl
    · obtain rfl : aa = some ⟨ab, ao, none⟩ := HG.out.form.resolve_left (by omega)
      have c1 := kept_of_below hb _ _ (HG.out.cell k (by omega))
      have hrl := HSM.out k (by omega)
      have HA : Hid (ArcsAt w (R k)) := HG.out.rows k (by omega)
      have HB : Hid (Below w.heap.size w wr) := hb
      clear hb
      rcases HA.out.form with hz | hz
      rotate_left
      rw [hz] at c1
      clear hz
      all_goals
        go_wp2
        go_loopw [8] (fun i wr => ∃ m : Nat, m ≤ (R k).rl ∧ i = .int .i64 m ∧ Below w.heap.size w wr ∧ RowDom nl (R k) m) (fun i _ => (R k).rl - (intOf i).toNat)
        case atStart => exact ⟨0, Nat.zero_le _, rfl, HB.out, RowDom.zero _ _⟩
        case round =>
          obtain ⟨m, hm, rfl, hb, hrd⟩ := hrel
          by_cases hlt2 : m < (R k).rl
          · first
            | (exfalso; omega)
            | (obtain ⟨d1, d2⟩ := HA.out.cell m hlt2
               have e1 := kept_of_below hb _ _ d1
               have e2 := kept_of_below hb _ _ d2
               have HB2 : Hid (Below w.heap.size w (wr.alloc (.cells #[.int .i64 ((R k).to m), .float .f64 ((R k).pb m)] 37))) := hb.alloc hb.size _
               have HRM : Hid ((posB ((R k).pb m) = true → 0 ≤ (R k).to m ∧ (R k).to m < nl) → RowDom nl (R k) (m + 1)) := hrd.succ
               clear hb hrd d1 d2
               cases hp : posB ((R k).pb m)
               · have hp' : (FloatKind.f64.format.order ((R k).pb m) 0 == some Ordering.gt) = false := hp
                 have HP : Hid (posB ((R k).pb m) = false) := hp
                 clear hp
                 go_wp2
                 go_roundw
                 case rel => exact ⟨m + 1, by omega, by go_num, HB2.out, HRM.out (fun h => by rw [HP.out] at h; cases h)⟩
                 case measure => simp [intOf]; omega
               · have hp' : (FloatKind.f64.format.order ((R k).pb m) 0 == some Ordering.gt) = true := hp
                 clear hp
                 by_cases p1 : (R k).to m < 0
                 · go_wp2
                   go_ret
                   exact AnsDom.no nl al R HB2.out
                 · by_cases p2 : (nl : Int) ≤ (R k).to m
                   · go_wp2
                     go_ret
                     exact AnsDom.no nl al R HB2.out
                   · go_wp2
                     go_roundw
                     case rel => exact ⟨m + 1, by omega, by go_num, HB2.out, HRM.out (fun _ => ⟨by omega, by omega⟩)⟩
                     case measure => simp [intOf]; omega)
          · obtain rfl : m = (R k).rl := by omega
            go_wp2
            go_roundw
            case rel => exact ⟨k + 1, by omega, by go_num, hb, fun i hi => by
              by_cases e : i = k
              · subst e; exact hrd
              · exact HRD.out i (by omega)⟩
            case measure => simp [intOf]; omega
    · obtain rfl : nl = k := by omega
      go_wp2
      go_ret
      exact AnsDom.yes hb ⟨by omega, fun i hi c hc => HRD.out i hi c hc⟩

end Go.Proofs.Qxb6632246a
