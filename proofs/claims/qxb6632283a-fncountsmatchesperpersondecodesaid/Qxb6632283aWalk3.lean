import Derived.Test.Qxb6632283aCopy
namespace Go.Proofs.Qxb6632283a
open Go.RowKit

/-- After Counts: the bytes, and the answer in block gb. -/
structure Got (w wr : World) (a : Option Addr) (ab ao len : Nat) (y : Nat → Nat) (p gb : Nat) : Prop where
  bytes : BytesAt wr a ab ao len y
  b : Below w.heap.size w wr
  g0 : wr.cell? ⟨gb, 0, none⟩ = some (.int .i64 (cnt y 3 p : Int))
  g1 : wr.cell? ⟨gb, 1, none⟩ = some (.int .i64 (cnt y 2 p : Int))
  g2 : wr.cell? ⟨gb, 2, none⟩ = some (.int .i64 (cnt y 0 p : Int))
  g3 : wr.cell? ⟨gb, 3, none⟩ = some (.int .i64 (cnt y 1 p : Int))
theorem Got.drew {w wr : World} {a : Option Addr} {ab ao len : Nat} {y : Nat → Nat} {p gb : Nat} (h : Got w wr a ab ao len y p gb) : Got w wr.drew a ab ao len y p gb :=
  ⟨⟨h.bytes.form, h.bytes.cell, h.bytes.lt⟩, h.b.drew, h.g0, h.g1, h.g2, h.g3⟩
theorem got_new {w w3 : World} {a : Option Addr} {ab ao len : Nat} {y : Nat → Nat} {p : Nat} (h1 : BytesAt w3 a ab ao len y) (h2 : Below w.heap.size w w3) :
    Got w (w3.alloc (.cells #[.int .i64 (cnt y 3 p : Int), .int .i64 (cnt y 2 p : Int), .int .i64 (cnt y 0 p : Int), .int .i64 (cnt y 1 p : Int)] 25)) a ab ao len y p w3.heap.size := by
  have hb : Below w3.heap.size w3 (w3.alloc (.cells #[.int .i64 (cnt y 3 p : Int), .int .i64 (cnt y 2 p : Int), .int .i64 (cnt y 0 p : Int), .int .i64 (cnt y 1 p : Int)] 25)) := (Below.refl _ _).alloc (Nat.le_refl _) _
  refine ⟨h1.kept hb, h2.alloc h2.size _, ?_, ?_, ?_, ?_⟩ <;> (unfold World.cell?; rw [Deep.blk_alloc_new]; rfl)

set_option maxRecDepth 100000 in
set_option maxHeartbeats 1600000 in
theorem walk3 (a : Option Addr) (ab ao len cap : Nat) (y : Nat → Nat) (pz : Int) (w : World) (hlc : len ≤ cap) (hb : BytesAt w a ab ao len y) :
    Calls Try.prog 3 #[.slice a len cap, .int .i64 pz] w fun e w' => e = .returned (.bool true) ∧ Below w.heap.size w w' := by
  have hnq := fun w => run_neq_slice_nil_any (P := Try.prog) w 22 5 a len cap 0 0 Try.underlying22
  have HL0 : Hid (a = none → Laid w len y (.slice a len cap) w) := fun h => ⟨a, ab, ao, cap, rfl, hlc, hb, Below.refl _ _⟩
  have HB : Hid (BytesAt w a ab ao len y) := hb
  clear hb
  by_cases hl : len ≤ 1048576
  rotate_left
  · have hd : decide (len ≤ 1048576) = false := by simp [hl]
    go_enter Try.func3, Try.ntmps3
    go_wp2_with (fail)
    refine (bytes5_any a len cap (.int .i64 pz) w).mono ?_
    rintro e w1 ⟨rfl, rfl⟩
    rw [hd]
    go_wp2
    go_ret
    exact ⟨rfl, Below.refl _ _⟩
  · have hd : decide (len ≤ 1048576) = true := by simp [hl]
    have h1 : ¬ (1048576 : Int) < (len : Int) := by omega
    by_cases hp0 : pz < 0
    · go_enter Try.func3, Try.ntmps3
      go_wp2_with (fail)
      refine (bytes5_any a len cap (.int .i64 pz) w).mono ?_
      rintro e w1 ⟨rfl, rfl⟩
      rw [hd]
      clear hd
      go_wp2
      go_ret
      exact ⟨rfl, Below.refl _ _⟩
    · obtain ⟨p, rfl⟩ := Int.eq_ofNat_of_zero_le (by omega : 0 ≤ pz)
      by_cases hp1 : 4 * (len : Int) < (p : Int)
      · go_enter Try.func3, Try.ntmps3
        go_wp2_with (fail)
        refine (bytes5_any a len cap (.int .i64 (p : Int)) w).mono ?_
        rintro e w1 ⟨rfl, rfl⟩
        rw [hd]
        clear hd
        go_wp2
        go_ret
        exact ⟨rfl, Below.refl _ _⟩
      · have hmk := make22 len hl
        go_enter Try.func3, Try.ntmps3
        go_wp2_with (fail)
        refine (bytes5_any a len cap (.int .i64 (p : Int)) w).mono ?_
        rintro e w1 ⟨rfl, rfl⟩
        rw [hd]
        clear hd
        go_upto_if 32 with (fail)
        go_cut [0] (fun v wc => Laid w1 len y v wc)
        case first =>
          clear hnq
          cases a with
          | none =>
            go_wp2
            go_meet
            case rel => exact HL0.out (by trivial)
          | some x =>
            obtain ⟨w2, hcp, hld⟩ := copy_run x ab ao len cap y w1 HB.out
            have HLD : Hid (Laid w1 len y (.slice (some ⟨w1.heap.size, 0, none⟩) len len) w2) := hld
            clear hld HL0
            go_wp2
            go_meet
            case rel => exact HLD.out
        case rest =>
          clear hnq hmk HL0 HB hlc
          clear a ab ao cap
          obtain ⟨a, ab, ao, cap, rfl, hlc, hB, hbel⟩ := hcut
          go_wp2_with (fail)
          refine (new6_any a len cap (p : Int) wc).mono ?_
          rintro e w2 ⟨rfl, hb2⟩
          go_wp2_with (fail)
          refine (counts_any a ab ao len cap p y w2 hl hlc (by omega) (hB.kept hb2)).mono ?_
          rintro e w3 ⟨rfl, hb3⟩
          have hb13 : Below w1.heap.size w1 w3 := (hbel.trans (hb2.mono hbel.size)).trans (hb3.mono (hbel.trans (hb2.mono hbel.size)).size)
          have hB3 := (hB.kept hb2).kept hb3
          have H0 : Hid _ := got_new (p := p) hB3 hb13
          clear hbel hb2 hb3 hb13 hB hB3
          go_wp2_with (fail)
          go_loopw [7, 8, 9, 10, 11] (fun c3 c2 c0 c1 i wr => ∃ t : Nat, t ≤ p ∧ i = .int .i64 t ∧ c3 = .int .i64 (cnt y 3 t : Int) ∧ c2 = .int .i64 (cnt y 2 t : Int) ∧ c0 = .int .i64 (cnt y 0 t : Int) ∧ c1 = .int .i64 (cnt y 1 t : Int) ∧ Got w1 wr a ab ao len y p w3.heap.size) (fun _ _ _ _ i _ => p - (intOf i).toNat)
          case atStart => exact ⟨0, Nat.zero_le _, rfl, rfl, rfl, rfl, rfl, H0.out⟩
          case round =>
            clear H0
            obtain ⟨t, ht, rfl, rfl, rfl, rfl, rfl, hG⟩ := hrel
            by_cases hlt : t < p
            · obtain ⟨f, r, hpf, hr⟩ : ∃ f r : Nat, t = 4 * f + r ∧ r < 4 := ⟨t / 4, t % 4, by omega, by omega⟩
              have hdiv : (t : Int) / 4 = (f : Int) := by omega
              have hmod : (t : Int) % 4 = (r : Int) := by omega
              have hfl : f < len := by omega
              obtain rfl : a = some ⟨ab, ao, none⟩ := hG.bytes.form.resolve_left (by omega)
              have cb := hG.bytes.cell f hfl
              have hy := hG.bytes.lt f hfl
              have HT : Hid (t = 4 * f + r) := hpf
              have HG : Hid (Got w1 wr (some ⟨ab, ao, none⟩) ab ao len y p w3.heap.size) := hG
              clear hG hpf
              go_wp2
              go_loopw [12, 14] (fun v j wr => ∃ s : Nat, s ≤ r ∧ j = .int .i64 s ∧ v = .int .i64 ((y f / 4 ^ s : Nat) : Int) ∧ Got w1 wr (some ⟨ab, ao, none⟩) ab ao len y p w3.heap.size) (fun _ j _ => r - (intOf j).toNat)
              case atStart => exact ⟨0, Nat.zero_le _, rfl, by simp, HG.out⟩
              case round =>
                clear HG cb
                obtain ⟨s, hs, rfl, rfl, hG⟩ := hrel
                have hqle : y f / 4 ^ s ≤ y f := Nat.div_le_self _ _
                have hq2 : y f / 4 ^ (s + 1) = y f / 4 ^ s / 4 := by rw [Nat.pow_succ, Nat.div_div_eq_div_mul]
                have hqd : s = r → y f / 4 ^ s % 4 = dg y t := by rintro rfl; rw [HT.out, dg_at _ _ _ hr]
                obtain ⟨q, hq⟩ : ∃ q, y f / 4 ^ s = q := ⟨_, rfl⟩
                rw [hq] at hqle hqd hq2 ⊢
                by_cases hlt2 : s < r
                · have HG : Hid (Got w1 wr (some ⟨ab, ao, none⟩) ab ao len y p w3.heap.size) := hG
                  obtain ⟨q', hq'⟩ : ∃ q', q / 4 = q' := ⟨_, rfl⟩
                  have e : (q : Int) / 4 = (q' : Int) := by omega
                  have HQ : Hid (y f / 4 ^ (s + 1) = q') := by rw [hq2, hq']; trivial
                  clear hG hqd hq2 hq' hq
                  go_wp2
                  go_roundw
                  case rel => exact ⟨s + 1, by omega, by go_num, by rw [HQ.out], HG.out⟩
                  case measure => simp [intOf]; omega
                · have hsr : s = r := by omega
                  have hd := hqd hsr
                  have hr4 := dg_lt y t
                  have HG : Hid (Got w1 wr (some ⟨ab, ao, none⟩) ab ao len y p w3.heap.size) := hG
                  have k0 := cnt_le y 0 t
                  have k1 := cnt_le y 1 t
                  have k2 := cnt_le y 2 t
                  have k3 := cnt_le y 3 t
                  clear hG hqd hq2 hq
                  subst hsr
                  rcases (show dg y t = 0 ∨ dg y t = 1 ∨ dg y t = 2 ∨ dg y t = 3 from by omega) with hdg | hdg | hdg | hdg
                  · have e : (q : Int) % 4 = 0 := by omega
                    have n3 : cnt y 3 (t + 1) = cnt y 3 t := by simp [cnt, hdg]
                    have n2 : cnt y 2 (t + 1) = cnt y 2 t := by simp [cnt, hdg]
                    have n1 : cnt y 1 (t + 1) = cnt y 1 t := by simp [cnt, hdg]
                    have n0 : cnt y 0 (t + 1) = cnt y 0 t + 1 := by simp [cnt, hdg]
                    have HN : Hid (cnt y 3 (t + 1) = cnt y 3 t ∧ cnt y 2 (t + 1) = cnt y 2 t ∧ cnt y 0 (t + 1) = cnt y 0 t + 1 ∧ cnt y 1 (t + 1) = cnt y 1 t) := ⟨n3, n2, n0, n1⟩
                    clear n0 n1 n2 n3 hdg hd
                    go_wp2
                    go_roundw
                    case rel =>
                      obtain ⟨n3, n2, n0, n1⟩ := HN.out
                      exact ⟨t + 1, by omega, by go_num, by rw [n3], by rw [n2], by rw [n0]; go_num, by rw [n1], HG.out⟩
                    case measure => simp [intOf]; omega
                  · have e : (q : Int) % 4 = 1 := by omega
                    have n3 : cnt y 3 (t + 1) = cnt y 3 t := by simp [cnt, hdg]
                    have n2 : cnt y 2 (t + 1) = cnt y 2 t := by simp [cnt, hdg]
                    have n1 : cnt y 1 (t + 1) = cnt y 1 t + 1 := by simp [cnt, hdg]
                    have n0 : cnt y 0 (t + 1) = cnt y 0 t := by simp [cnt, hdg]
                    have HN : Hid (cnt y 3 (t + 1) = cnt y 3 t ∧ cnt y 2 (t + 1) = cnt y 2 t ∧ cnt y 0 (t + 1) = cnt y 0 t ∧ cnt y 1 (t + 1) = cnt y 1 t + 1) := ⟨n3, n2, n0, n1⟩
                    clear n0 n1 n2 n3 hdg hd
                    go_wp2
                    go_roundw
                    case rel =>
                      obtain ⟨n3, n2, n0, n1⟩ := HN.out
                      exact ⟨t + 1, by omega, by go_num, by rw [n3], by rw [n2], by rw [n0], by rw [n1]; go_num, HG.out⟩
                    case measure => simp [intOf]; omega
                  · have e : (q : Int) % 4 = 2 := by omega
                    have n3 : cnt y 3 (t + 1) = cnt y 3 t := by simp [cnt, hdg]
                    have n2 : cnt y 2 (t + 1) = cnt y 2 t + 1 := by simp [cnt, hdg]
                    have n1 : cnt y 1 (t + 1) = cnt y 1 t := by simp [cnt, hdg]
                    have n0 : cnt y 0 (t + 1) = cnt y 0 t := by simp [cnt, hdg]
                    have HN : Hid (cnt y 3 (t + 1) = cnt y 3 t ∧ cnt y 2 (t + 1) = cnt y 2 t + 1 ∧ cnt y 0 (t + 1) = cnt y 0 t ∧ cnt y 1 (t + 1) = cnt y 1 t) := ⟨n3, n2, n0, n1⟩
                    clear n0 n1 n2 n3 hdg hd
                    go_wp2
                    go_roundw
                    case rel =>
                      obtain ⟨n3, n2, n0, n1⟩ := HN.out
                      exact ⟨t + 1, by omega, by go_num, by rw [n3], by rw [n2]; go_num, by rw [n0], by rw [n1], HG.out⟩
                    case measure => simp [intOf]; omega
                  · have e : (q : Int) % 4 = 3 := by omega
                    have n3 : cnt y 3 (t + 1) = cnt y 3 t + 1 := by simp [cnt, hdg]
                    have n2 : cnt y 2 (t + 1) = cnt y 2 t := by simp [cnt, hdg]
                    have n1 : cnt y 1 (t + 1) = cnt y 1 t := by simp [cnt, hdg]
                    have n0 : cnt y 0 (t + 1) = cnt y 0 t := by simp [cnt, hdg]
                    have HN : Hid (cnt y 3 (t + 1) = cnt y 3 t + 1 ∧ cnt y 2 (t + 1) = cnt y 2 t ∧ cnt y 0 (t + 1) = cnt y 0 t ∧ cnt y 1 (t + 1) = cnt y 1 t) := ⟨n3, n2, n0, n1⟩
                    clear n0 n1 n2 n3 hdg hd
                    go_wp2
                    go_roundw
                    case rel =>
                      obtain ⟨n3, n2, n0, n1⟩ := HN.out
                      exact ⟨t + 1, by omega, by go_num, by rw [n3]; go_num, by rw [n2], by rw [n0], by rw [n1], HG.out⟩
                    case measure => simp [intOf]; omega
            · obtain rfl : p = t := by omega
              have HG : Hid (Below w1.heap.size w1 wr) := hG.b
              have g0 := hG.g0
              have g1 := hG.g1
              have g2 := hG.g2
              have g3 := hG.g3
              clear hG
              go_wp2
              go_ret
              exact ⟨rfl, HG.out⟩

end Go.Proofs.Qxb6632283a
