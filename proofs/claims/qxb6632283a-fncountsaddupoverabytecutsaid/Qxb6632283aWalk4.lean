import Derived.Test.Qxb6632283aCopy
namespace Go.Proofs.Qxb6632283a
open Go.RowKit

def boxOf (y : Nat → Nat) (p : Nat) : Obj := .cells #[.int .i64 (cnt y 3 p : Int), .int .i64 (cnt y 2 p : Int), .int .i64 (cnt y 0 p : Int), .int .i64 (cnt y 1 p : Int)] 25
/-- Counts' answer in block gb. -/
structure GotAt (w : World) (y : Nat → Nat) (p gb : Nat) : Prop where
  g0 : w.cell? ⟨gb, 0, none⟩ = some (.int .i64 (cnt y 3 p : Int))
  g1 : w.cell? ⟨gb, 1, none⟩ = some (.int .i64 (cnt y 2 p : Int))
  g2 : w.cell? ⟨gb, 2, none⟩ = some (.int .i64 (cnt y 0 p : Int))
  g3 : w.cell? ⟨gb, 3, none⟩ = some (.int .i64 (cnt y 1 p : Int))
theorem GotAt.kept {w w' : World} {y : Nat → Nat} {p gb : Nat} (h : GotAt w y p gb) (hb : Below w.heap.size w w') : GotAt w' y p gb :=
  ⟨kept_of_below hb _ _ h.g0, kept_of_below hb _ _ h.g1, kept_of_below hb _ _ h.g2, kept_of_below hb _ _ h.g3⟩
theorem gotAt_new (w : World) (y : Nat → Nat) (p : Nat) : GotAt (w.alloc (boxOf y p)) y p w.heap.size := by
  refine ⟨?_, ?_, ?_, ?_⟩ <;> (unfold World.cell?; rw [Deep.blk_alloc_new]; rfl)
theorem below_box (w : World) (y : Nat → Nat) (p : Nat) : Below w.heap.size w (w.alloc (boxOf y p)) := (Below.refl _ _).alloc (Nat.le_refl _) _
theorem below_trans {w w1 w2 : World} (h : Below w.heap.size w w1) (h2 : Below w1.heap.size w1 w2) : Below w.heap.size w w2 := h.trans (h2.mono h.size)
theorem BytesAt.head {w : World} {a : Option Addr} {ab ao len k : Nat} {y : Nat → Nat} (h : BytesAt w a ab ao len y) (hk : k ≤ len) : BytesAt w a ab ao k y :=
  ⟨by rcases h.form with h | h
      · exact Or.inl (by omega)
      · exact Or.inr h, fun i hi => h.cell i (by omega), fun i hi => h.lt i (by omega)⟩
theorem BytesAt.tail {w : World} {a x : Option Addr} {ab ao len k : Nat} {y : Nat → Nat} (h : BytesAt w a ab ao len y) (hx : len - k ≤ 0 ∨ x = Option.map (fun x => x.add k) a) : BytesAt w x ab (ao + k) (len - k) (fun j => y (k + j)) := by
  refine ⟨?_, fun i hi => ?_, fun i hi => h.lt _ (by omega)⟩
  · rcases hx with hx | rfl
    · exact Or.inl hx
    · rcases h.form with e | e
      · exact Or.inl (by omega)
      · refine Or.inr ?_
        rw [e, Option.map_some, add_plain]
  · rw [Nat.add_assoc]
    exact h.cell (k + i) (by omega)

set_option maxRecDepth 100000 in
set_option maxHeartbeats 1600000 in
theorem walk4 (a : Option Addr) (ab ao len cap : Nat) (y : Nat → Nat) (pz kz : Int) (w : World) (hlc : len ≤ cap) (hb : BytesAt w a ab ao len y) :
    Calls Try.prog 4 #[.slice a len cap, .int .i64 pz, .int .i64 kz] w fun e w' => e = .returned (.bool true) ∧ Below w.heap.size w w' := by
  have hnq := fun w => run_neq_slice_nil_any (P := Try.prog) w 22 5 a len cap 0 0 Try.underlying22
  have HL0 : Hid (a = none → Laid w len y (.slice a len cap) w) := fun h => ⟨a, ab, ao, cap, rfl, hlc, hb, Below.refl _ _⟩
  have HB : Hid (BytesAt w a ab ao len y) := hb
  clear hb
  by_cases hl : len ≤ 1048576
  rotate_left
  · have hd : decide (len ≤ 1048576) = false := by simp [hl]
    go_enter Try.func4, Try.ntmps4
    go_wp2_with (fail)
    refine (bytes8_any a len cap (.int .i64 pz) (.int .i64 kz) w).mono ?_
    rintro e w1 ⟨rfl, rfl⟩
    rw [hd]
    go_wp2
    go_ret
    exact ⟨rfl, Below.refl _ _⟩
  · have hd : decide (len ≤ 1048576) = true := by simp [hl]
    have h1 : ¬ (1048576 : Int) < (len : Int) := by omega
    by_cases hp0 : pz < 0
    · go_enter Try.func4, Try.ntmps4
      go_wp2_with (fail)
      refine (bytes8_any a len cap (.int .i64 pz) (.int .i64 kz) w).mono ?_
      rintro e w1 ⟨rfl, rfl⟩
      rw [hd]
      clear hd
      go_wp2
      go_ret
      exact ⟨rfl, Below.refl _ _⟩
    · obtain ⟨p, rfl⟩ := Int.eq_ofNat_of_zero_le (by omega : 0 ≤ pz)
      by_cases hp1 : 4 * (len : Int) < (p : Int)
      · go_enter Try.func4, Try.ntmps4
        go_wp2_with (fail)
        refine (bytes8_any a len cap (.int .i64 (p : Int)) (.int .i64 kz) w).mono ?_
        rintro e w1 ⟨rfl, rfl⟩
        rw [hd]
        clear hd
        go_wp2
        go_ret
        exact ⟨rfl, Below.refl _ _⟩
      · obtain ⟨f, hdiv⟩ : ∃ f : Nat, (p : Int) / 4 = (f : Int) := ⟨p / 4, by omega⟩
        have hpf : (f : Int) * 4 ≤ p := by omega
        by_cases hk0 : kz < 0
        · go_enter Try.func4, Try.ntmps4
          go_wp2_with (fail)
          refine (bytes8_any a len cap (.int .i64 (p : Int)) (.int .i64 kz) w).mono ?_
          rintro e w1 ⟨rfl, rfl⟩
          rw [hd]
          clear hd
          go_wp2
          go_ret
          exact ⟨rfl, Below.refl _ _⟩
        obtain ⟨k, rfl⟩ := Int.eq_ofNat_of_zero_le (by omega : 0 ≤ kz)
        by_cases hk1 : (f : Int) < (k : Int)
        · go_enter Try.func4, Try.ntmps4
          go_wp2_with (fail)
          refine (bytes8_any a len cap (.int .i64 (p : Int)) (.int .i64 (k : Int)) w).mono ?_
          rintro e w1 ⟨rfl, rfl⟩
          rw [hd]
          clear hd
          go_wp2
          go_ret
          exact ⟨rfl, Below.refl _ _⟩
        have hmk := make22 len hl
        go_enter Try.func4, Try.ntmps4
        go_wp2_with (fail)
        refine (bytes8_any a len cap (.int .i64 (p : Int)) (.int .i64 (k : Int)) w).mono ?_
        rintro e w1 ⟨rfl, rfl⟩
        rw [hd]
        clear hd
        go_upto_if 37 with (fail)
        go_cut [0] (fun v wc => Laid w1 len y v wc)
        case first =>
          clear hnq
          cases a with
          | none =>
            go_wp2
            go_meet
            case rel => exact HL0.out (by trivial)
          | some x =>
            obtain ⟨w2, hcp, hld⟩ := copy_run x ab ao len cap y w1 HB.out
            have HLD : Hid (Laid w1 len y (.slice (some ⟨w1.heap.size, 0, none⟩) len len) w2) := hld
            clear hld HL0
            go_wp2
            go_meet
            case rel => exact HLD.out
        case rest =>
          clear hnq hmk HL0 HB hlc
          clear a ab ao cap
          obtain ⟨a, ab, ao, cap, rfl, hlc, hB, hbel⟩ := hcut
          obtain ⟨k4, hk4⟩ : ∃ k4 : Nat, 4 * (k : Int) = (k4 : Int) := ⟨4 * k, by omega⟩
          obtain ⟨p2, hp2⟩ : ∃ p2 : Nat, (p : Int) - (k4 : Int) = (p2 : Int) := ⟨p - k4, by omega⟩
          have hkl : k ≤ len := by omega
          go_wp2_with (fail)
          refine (new6_any a len cap (p : Int) wc).mono ?_
          rintro e w2 ⟨rfl, hb2⟩
          go_wp2_with (fail)
          refine (counts_any a ab ao len cap p y w2 hl hlc (by omega) (hB.kept hb2)).mono ?_
          rintro e w3 ⟨rfl, hb3⟩
          have hb13 := below_trans (below_trans (below_trans hbel hb2) hb3) (below_box w3 y p)
          have hB3 := ((hB.kept hb2).kept hb3).kept (below_box w3 y p)
          have hG1 := gotAt_new w3 y p
          clear hbel hb2 hb3 hB
          have H0 : Hid (Below w1.heap.size w1 (w3.alloc (boxOf y p)) ∧ BytesAt (w3.alloc (boxOf y p)) a ab ao len y ∧ GotAt (w3.alloc (boxOf y p)) y p w3.heap.size) := ⟨hb13, hB3, hG1⟩
          clear hb13 hB3 hG1
          go_wp2_with (fail)
          refine (new6_any a k cap (k4 : Int) _).mono ?_
          rintro e w4 ⟨rfl, hb4⟩
          obtain ⟨hb13, hB3, hG1⟩ := H0.out
          have hb14 := below_trans hb13 hb4
          have hB4 := hB3.kept hb4
          have hG4 := hG1.kept hb4
          clear hb13 hB3 hG1 H0 hb4
          go_wp2_with (fail)
          refine (counts_any a ab ao k cap k4 y w4 (by omega) (by omega) (by omega) (hB4.head hkl)).mono ?_
          rintro e w5 ⟨rfl, hb5⟩
          have H1 : Hid (Below w1.heap.size w1 (w5.alloc (boxOf y k4)) ∧ BytesAt (w5.alloc (boxOf y k4)) a ab ao len y ∧ GotAt (w5.alloc (boxOf y k4)) y p w3.heap.size ∧ GotAt (w5.alloc (boxOf y k4)) y k4 w5.heap.size) :=
            ⟨below_trans (below_trans hb14 hb5) (below_box _ _ _), (hB4.kept hb5).kept (below_box _ _ _), (hG4.kept hb5).kept (below_box _ _ _), gotAt_new _ _ _⟩
          clear hb14 hb5 hB4 hG4
          have HS : Hid (∀ v, cnt y v k4 + cnt (fun j => y (k + j)) v p2 = cnt y v p) := by
            intro v
            have e1 : k4 = 4 * k := by omega
            have e2 : p = 4 * k + p2 := by omega
            rw [e1, e2, cnt_split]
          go_wp2_with (fail)
          all_goals
            refine (new6_any _ (len - k) _ (p2 : Int) _).mono ?_
            rintro e w6 ⟨rfl, hb6⟩
            obtain ⟨hb15, hB5, hG5, hG5'⟩ := H1.out
            have hb16 := below_trans hb15 hb6
            have hB6 := hB5.kept hb6
            have hG6 := hG5.kept hb6
            have hG6' := hG5'.kept hb6
            clear hb15 hB5 hG5 hG5' H1 hb6
            go_wp2_with (fail)
            refine (counts_any _ ab (ao + k) (len - k) _ p2 (fun j => y (k + j)) w6 (by omega) (by omega) (by omega) (hB6.tail (by first | exact Or.inl (by omega) | exact Or.inr rfl))).mono ?_
            rintro e w7 ⟨rfl, hb7⟩
            obtain ⟨z, hz⟩ : ∃ z : Nat → Nat, z = fun j => y (k + j) := ⟨_, rfl⟩
            have HS2 := HS.out
            rw [← hz] at HS2 ⊢
            clear HS hz
            have HB : Hid (Below w1.heap.size w1 (w7.alloc (boxOf z p2))) := below_trans (below_trans hb16 hb7) (below_box _ _ _)
            have hGa := (hG6.kept hb7).kept (below_box w7 z p2)
            have hGb := (hG6'.kept hb7).kept (below_box w7 z p2)
            clear hb16 hb7 hB6 hG6 hG6'
            have a0 := hGa.g0
            have a1 := hGa.g1
            have a2 := hGa.g2
            have a3 := hGa.g3
            have b0 := hGb.g0
            have b1 := hGb.g1
            have b2 := hGb.g2
            have b3 := hGb.g3
            have s3 : (cnt y 3 k4 : Int) + (cnt z 3 p2 : Int) = (cnt y 3 p : Int) := by have := HS2 3; omega
            have s2 : (cnt y 2 k4 : Int) + (cnt z 2 p2 : Int) = (cnt y 2 p : Int) := by have := HS2 2; omega
            have s0 : (cnt y 0 k4 : Int) + (cnt z 0 p2 : Int) = (cnt y 0 p : Int) := by have := HS2 0; omega
            have s1 : (cnt y 1 k4 : Int) + (cnt z 1 p2 : Int) = (cnt y 1 p : Int) := by have := HS2 1; omega
            have t1 : (cnt y 3 k4 : Int) + (cnt y 2 k4 : Int) + (cnt y 0 k4 : Int) + (cnt y 1 k4 : Int) = (k4 : Int) := by have := cnt_sum y k4; omega
            have t2 : (cnt y 3 p : Int) + (cnt y 2 p : Int) + (cnt y 0 p : Int) + (cnt y 1 p : Int) = (p : Int) := by have := cnt_sum y p; omega
            simp only [boxOf] at a0 a1 a2 a3 b0 b1 b2 b3
            clear hGa hGb HS2
            go_wp2
            go_ret
            exact ⟨rfl, HB.out⟩

end Go.Proofs.Qxb6632283a
