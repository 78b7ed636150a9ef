import Derived.Test.Qxb6631263aSame
namespace Go.Proofs.Qxb6631263a
open Go.RowKit Go.Maps
attribute [local go_sem] Go.wp_at_zero Go.wp_at_succ

theorem id_eq {a b : ByteArray} : ((a.toList == b.toList) = true) ↔ a.data.toList = b.data.toList := by
  rw [ByteArray.toList_eq, ByteArray.toList_eq]; simp

theorem lk_cases (R : Nat → RowD) (id : ByteArray) : ∀ len, (lastAt R id len = -1 ∧ lk R len id.data.toList = none) ∨ ∃ k : Nat, k < len ∧ lastAt R id len = k ∧ lk R len id.data.toList = some ((R k).cfg, (R k).past)
  | 0 => Or.inl ⟨rfl, rfl⟩
  | n + 1 => by
    by_cases e : ((R n).id.toList == id.toList) = true
    · exact Or.inr ⟨n, by omega, lastAt_yes e, by simp [lk, upd, (id_eq.1 e).symm]⟩
    · have e' : ((R n).id.toList == id.toList) = false := by simpa using e
      have e2 : ¬ id.data.toList = (R n).id.data.toList := fun h => e (id_eq.2 h.symm)
      rcases lk_cases R id n with ⟨h1, h2⟩ | ⟨k, h1, h2, h3⟩
      · exact Or.inl ⟨(lastAt_no e').trans h1, by simp [lk, upd, e2, h2]⟩
      · exact Or.inr ⟨k, by omega, (lastAt_no e').trans h2, by simp [lk, upd, e2, h3]⟩

set_option maxHeartbeats 1600000 in
theorem lawA_none (a : Option Addr) (len cap : Nat) (R : Nat → RowD) (id : ByteArray) (w : World) (hml : len ≤ maxLen) (hid : id.size ≤ 1048576) (h : RowsAt w a len R)
    (hla : lastAt R id len = -1) (hlk : lk R len id.data.toList = none) :
    Calls Try.prog 3 #[.slice a len cap, .string id] w fun e w' => e = .returned (.bool true) ∧ Below w.heap.size w w' := by
  have HA : Hid (lastAt R id len = -1) := hla
  have HK : Hid (lk R len id.data.toList = none) := hlk
  clear hla hlk
  go_enter Try.func3, Try.ntmps3
  go_wp2_with fail
  refine (bytes5_any a len cap R id _ hml (by unfold maxLen; omega) h).mono ?_
  rintro e w1 ⟨t, rfl, rfl, ht⟩
  cases t
  · go_wp2
    go_ret
    exact ⟨rfl, Below.refl _ _⟩
  obtain ⟨hl, hsm⟩ := ht rfl
  clear ht
  go_wp2_with fail
  refine (tooBig_any a len cap R _ _ hl h).mono ?_
  rintro e w2 ⟨t, rfl, rfl⟩
  cases t
  case true =>
    go_wp2
    go_ret
    exact ⟨rfl, Below.refl _ _⟩
  go_wp2_with fail
  refine (build_any a len cap R _ (by omega) hsm h).mono ?_
  rintro e w0 ⟨rfl, hs, hb1⟩
  go_wp2_with fail
  refine (lastAt_any a len cap R id _ hl (h.kept (kept_of_below hb1))).mono ?_
  rintro e w1 ⟨rfl, rfl⟩
  rw [HA.out]
  go_wp2_with fail
  refine (of_none _ _ _ _ id _ hs hid HK.out).mono ?_
  rintro e w3 ⟨rfl, hb3⟩
  go_wp2_with fail
  refine (expected_none a len cap _).mono ?_
  rintro e w4 ⟨rfl, hb4⟩
  have c0 : w4.cell? ⟨w3.heap.size, 0, none⟩ = some (.slice none 0 0) := kept_of_below hb4 _ _ (by simp)
  have c1 : w4.cell? ⟨w3.heap.size, 1, none⟩ = some (.int .i64 0) := kept_of_below hb4 _ _ (by simp)
  have f1 : w4.frozen? ⟨w3.heap.size, 1, none⟩ = false := (hb4.frozen (p := ⟨w3.heap.size, 1, none⟩) (by simp)).trans (by simp)
  have hs3 := hb3.size
  have hz4 : w3.heap.size < w4.heap.size := by have := hb4.size; simp at this; omega
  have HB4 : Hid (Below w1.heap.size w1 w4) := hb3.trans (((Below.refl _ _).alloc hb3.size _).trans (hb4.mono (by simp; omega)))
  clear hb4 hb3
  have HS : Hid (Served w1 (w2.heap.size + 1) w2.heap.size len (lk R len)) := hs
  clear hs
  go_wp2
  refine wp_loop_rounds 1 ?_
  rw [rounds_succ]
  go_wp2_with fail
  refine (of_none _ _ _ _ id _ (HS.out.below (HB4.out.setCell hs3 _)) hid HK.out).mono ?_
  rintro e w5 ⟨rfl, hb5⟩
  have hb6 := (HB4.out.setCell (p := ⟨w3.heap.size, 1, none⟩) hs3 (.int .i64 (bits BinOp.xor IntKind.i64 (-1) 0))).trans (hb5.mono (HB4.out.setCell (p := ⟨w3.heap.size, 1, none⟩) hs3 (.int .i64 (bits BinOp.xor IntKind.i64 (-1) 0))).size)
  have HB6 : Hid (Below w1.heap.size w1 w5) := hb6
  clear hb6 hb5
  go_wp2_with fail
  refine (expected_none a len cap _).mono ?_
  rintro e w6 ⟨rfl, hb7⟩
  have HB7 : Hid (Below w1.heap.size w1 w6) := (HB6.out.alloc HB6.out.size _).trans (hb7.mono (by have := HB6.out.size; simp; omega))
  clear hb7
  go_wp2
  go_ret
  exact ⟨rfl, hb1.trans (HB7.out.mono hb1.size)⟩

/-- While the answer is scribbled over. -/
structure Scrib (w1 wr : World) (tb nb n : Nat) (past : Int) : Prop where
  t : wr.rowIs tb 30 2 (cells54 nb n past)
  f : ∃ f : Nat → Int, wr.rowIs nb 2 n (fun j => .int .i64 (f j))
  b : Below w1.heap.size w1 wr
  ne : tb ≠ nb
  l1 : w1.heap.size ≤ tb
  l2 : w1.heap.size ≤ nb

theorem Scrib.step {w1 wr : World} {tb nb n : Nat} {past : Int} (h : Scrib w1 wr tb nb n past) (k : Nat) (x : Int) : Scrib w1 (wr.setCell ⟨nb, k, none⟩ (.int .i64 x)).drew tb nb n past := by
  obtain ⟨f, hf⟩ := h.f
  refine ⟨(h.t.setOther h.ne _).drew, ⟨fun j => if j = k then x else f j, ((hf.set k (.int .i64 x)).congr (fun i _ => ?_)).drew⟩, (h.b.setCell h.l2 _).drew, h.ne, h.l1, h.l2⟩
  by_cases e : i = k <;> simp [e]

set_option maxHeartbeats 1600000 in
theorem lawA_some (a : Option Addr) (len cap : Nat) (R : Nat → RowD) (id : ByteArray) (w : World) (hml : len ≤ maxLen) (hid : id.size ≤ 1048576) (h : RowsAt w a len R) (at_ : Nat) (hat : at_ < len)
    (hla : lastAt R id len = at_) (hlk : lk R len id.data.toList = some ((R at_).cfg, (R at_).past)) :
    Calls Try.prog 3 #[.slice a len cap, .string id] w fun e w' => e = .returned (.bool true) ∧ Below w.heap.size w w' := by
  have HA : Hid (lastAt R id len = at_) := hla
  have HK : Hid (lk R len id.data.toList = some ((R at_).cfg, (R at_).past)) := hlk
  clear hla hlk
  go_enter Try.func3, Try.ntmps3
  go_wp2_with fail
  refine (bytes5_any a len cap R id _ hml (by unfold maxLen; omega) h).mono ?_
  rintro e w1 ⟨t, rfl, rfl, ht⟩
  cases t
  · go_wp2
    go_ret
    exact ⟨rfl, Below.refl _ _⟩
  obtain ⟨hl, hsm⟩ := ht rfl
  clear ht
  go_wp2_with fail
  refine (tooBig_any a len cap R _ _ hl h).mono ?_
  rintro e w2 ⟨t, rfl, rfl⟩
  cases t
  case true =>
    go_wp2
    go_ret
    exact ⟨rfl, Below.refl _ _⟩
  go_wp2_with fail
  refine (build_any a len cap R _ (by omega) hsm h).mono ?_
  rintro e w0 ⟨rfl, hs, hb1⟩
  go_wp2_with fail
  refine (lastAt_any a len cap R id _ hl (h.kept (kept_of_below hb1))).mono ?_
  rintro e w1 ⟨rfl, rfl⟩
  rw [HA.out]
  go_wp2_with fail
  refine (of_some _ _ _ _ id _ _ _ hs hid HK.out).mono ?_
  rintro e w3 ⟨nb, rfl, hn3, hln, hb3⟩
  have hlen : (R at_).cfg.length = (R at_).cl := (h.2 at_ hat).1
  rw [hlen] at hn3 ⊢
  have hcl := (hsm at_ hat).1
  have HL : Hid ((R at_).cfg.length = (R at_).cl) := hlen
  clear hlen
  have hnlt := hn3.lt
  go_wp2_with fail
  have hW : Below w3.heap.size w3 (w3.alloc (.cells #[.slice (some ⟨nb, 0, none⟩) (R at_).cl (R at_).cl, .int .i64 (R at_).past] 30)) := (Below.refl _ _).alloc (Nat.le_refl _) _
  have hbW : Below w1.heap.size w1 (w3.alloc (.cells #[.slice (some ⟨nb, 0, none⟩) (R at_).cl (R at_).cl, .int .i64 (R at_).past] 30)) := hb3.alloc hb3.size _
  refine (expected_some nb at_ a len cap R _ hat hl ((h.kept (kept_of_below hb1)).kept (kept_of_below hbW)) hcl (hn3.alloc _)).mono ?_
  rintro e w4 ⟨rfl, hb4⟩
  have hbW4 : Below w1.heap.size w1 w4 := hbW.trans (hb4.mono hbW.size)
  have hsc : Scrib w1 w4 w3.heap.size nb (R at_).cl (R at_).past :=
    ⟨two_cells.of_block (hb4.block _ (by simp)), ⟨fun j => (R at_).cfg.getD j 0, (hn3.alloc _).of_block (hb4.block _ (by simp; omega))⟩, hbW4, by omega, hb3.size, hln⟩
  have HS : Hid (Served w1 (w2.heap.size + 1) w2.heap.size len (lk R len)) := hs
  have HH : Hid (RowsAt w1 a len R) := h.kept (kept_of_below hb1)
  clear hs hb4 hW hbW hbW4 hn3 hb3 h
  have d0 := hsc.t.cell (i := 0) (by omega)
  simp only [cells54, if_true] at d0
  go_wp2
  go_loopw [37] (fun i wr => ∃ k : Nat, k ≤ (R at_).cl ∧ i = .int .i64 k ∧ Scrib w1 wr w3.heap.size nb (R at_).cl (R at_).past) (fun i _ => (R at_).cl - (intOf i).toNat)
  case atStart => exact ⟨0, Nat.zero_le _, rfl, hsc⟩
  case round =>
    clear hsc d0
    obtain ⟨k, hk, rfl, hsc⟩ := hrel
    have d0 := hsc.t.cell (i := 0) (by omega)
    have d1 := hsc.t.cell (i := 1) (by omega)
    simp only [cells54, if_true, Nat.succ_ne_zero, if_false] at d0 d1
    by_cases hlt : k < (R at_).cl
    · obtain ⟨f, hf⟩ := hsc.f
      have c0 := hf.cell hlt
      have c1 := hf.frozen k
      obtain ⟨x, hx⟩ : ∃ x, f k = x := ⟨_, rfl⟩
      simp only [hx] at c0
      have HSC : Hid (Scrib w1 wr w3.heap.size nb (R at_).cl (R at_).past) := hsc
      clear hsc hf hx
      go_wp2
      go_region
      all_goals go_wp2
      all_goals go_roundw
      case rel => exact ⟨k + 1, by omega, by go_num, HSC.out.step _ _⟩
      case measure => simp [intOf]; omega
    · have f1 := hsc.t.frozen 1
      have HSC : Hid (Scrib w1 wr w3.heap.size nb (R at_).cl (R at_).past) := hsc
      have hb5 : Below w1.heap.size w1 (wr.setCell ⟨w3.heap.size, 1, none⟩ (.int .i64 (bits BinOp.xor IntKind.i64 (-1) (R at_).past))) := hsc.b.setCell hsc.l1 _
      have HB5 : Hid (Below w1.heap.size w1 (wr.setCell ⟨w3.heap.size, 1, none⟩ (.int .i64 (bits BinOp.xor IntKind.i64 (-1) (R at_).past)))) := hb5
      clear hsc hb5
      go_wp2_with fail
      refine (of_some _ _ _ _ id _ _ _ (HS.out.below HB5.out) hid HK.out).mono ?_
      rintro e w5 ⟨nb5, rfl, hn5, hln5, hb5⟩
      have hbW5 : Below w1.heap.size w1 w5 := HB5.out.trans (hb5.mono HB5.out.size)
      rw [HL.out] at hn5 ⊢
      clear hb5 hln5
      go_wp2_with fail
      have hbW6 : Below w1.heap.size w1 (w5.alloc (.cells #[.slice (some ⟨nb5, 0, none⟩) (R at_).cl (R at_).cl, .int .i64 (R at_).past] 30)) := hbW5.alloc hbW5.size _
      refine (expected_some nb5 at_ a len cap R _ hat hl (HH.out.kept (kept_of_below hbW6)) hcl (hn5.alloc _)).mono ?_
      rintro e w6 ⟨rfl, hb6⟩
      have HB7 : Hid (Below w1.heap.size w1 w6) := hbW6.trans (hb6.mono hbW6.size)
      clear hb6 hbW6 hbW5 hn5
      go_wp2
      go_ret
      exact ⟨rfl, hb1.trans (HB7.out.mono hb1.size)⟩

/-- An id of more than 1<<20 bytes: the law answers true at once. -/
theorem lawA_long (a : Option Addr) (len cap : Nat) (R : Nat → RowD) (id : ByteArray) (w : World) (hml : len ≤ maxLen) (hid : id.size ≤ maxLen) (hlong : (1048576 : Int) < (id.size : Int)) (h : RowsAt w a len R) :
    Calls Try.prog 3 #[.slice a len cap, .string id] w fun e w' => e = .returned (.bool true) ∧ Below w.heap.size w w' := by
  go_enter Try.func3, Try.ntmps3
  go_wp2_with fail
  refine (bytes5_any a len cap R id _ hml hid h).mono ?_
  rintro e w1 ⟨t, rfl, rfl, ht⟩
  cases t
  · go_wp2
    go_ret
    exact ⟨rfl, Below.refl _ _⟩
  clear ht
  go_wp2
  go_ret
  exact ⟨rfl, Below.refl _ _⟩

/-- FnOfAnswersLastConfiguredRowAsAFreshSnapshot answers true. -/
theorem lawA (a : Option Addr) (len cap : Nat) (R : Nat → RowD) (id : ByteArray) (w : World) (hml : len ≤ maxLen) (hid : id.size ≤ maxLen) (h : RowsAt w a len R) :
    Calls Try.prog 3 #[.slice a len cap, .string id] w fun e w' => e = .returned (.bool true) ∧ Below w.heap.size w w' := by
  by_cases hs : id.size ≤ 1048576
  · rcases lk_cases R id len with ⟨h1, h2⟩ | ⟨k, h1, h2, h3⟩
    · exact lawA_none a len cap R id w hml hs h h1 h2
    · exact lawA_some a len cap R id w hml hs h k h1 h2 h3
  · exact lawA_long a len cap R id w hml hid (by omega) h

end Go.Proofs.Qxb6631263a
