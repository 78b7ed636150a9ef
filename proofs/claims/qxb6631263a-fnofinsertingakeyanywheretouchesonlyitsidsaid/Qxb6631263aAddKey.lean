import Derived.Test.Qxb6631263aServed
namespace Go.Proofs.Qxb6631263a
open Go.RowKit Go.Maps
attribute [local go_sem] Go.wp_at_zero Go.wp_at_succ

set_option maxHeartbeats 800000 in
theorem addKey_some (sb mb n : Nat) (D : DataW Unit) (id : ByteArray) (ca : Option Addr) (cl cc : Nat) (cfg : List Int) (past : Int) (w : World) (hlen : cfg.length = cl)
    (hca : cl ≤ 0 ∨ ∃ b off, ca = some ⟨b, off, none⟩ ∧ ∀ j, j < cl → w.cell? ⟨b, off + j, none⟩ = some (.int .i64 (cfg.getD j 0))) (hr : cl ≤ 1048576) (hid : id.size ≤ maxLen) (hn : n < maxLen)
    (hs : w.rowIs sb 44 1 (fun _ => .map (some mb))) (hm : w.ownsMap Try.prog 9 ptrElem mb n D) :
    Calls Try.prog 15 #[.pointer (some ⟨sb, 0, none⟩), .string id, .slice ca cl cc, .int .i64 past] w fun e w' =>
      e = .returned (.tuple #[]) ∧ ∃ kb : Nat, w'.ownsMap Try.prog 9 ptrElem mb (n + 1) (D.put (keyLit id) (.lit (.int .i64 kb))) ∧ KeyAt w' kb (cfg, past) ∧ w.grownBy w' (some mb) := by
  have hmk := fun w => make45 cl hr w
  have hmlt := hm.lt
  have hslt := hs.lt
  have HL : Hid (cfg.length = cl) := hlen
  clear hlen
  rcases hca with hcl | ⟨b, off, rfl, hc⟩
  all_goals
    go_enter Try.func15, Try.ntmps15
    go_wp2
    go_loopw [17] (fun i wr => ∃ k : Nat, k ≤ cl ∧ i = .int .i64 k ∧ wr.rowIs w.heap.size 52 cl (cells52 cfg k) ∧
      wr.rowIs (w.heap.size + 1) 54 2 (cells54 w.heap.size cl 0) ∧ Below w.heap.size w wr ∧ wr.heap.size = w.heap.size + 2) (fun i _ => cl - (intOf i).toNat)
    case atStart =>
      obtain ⟨s1, s2, s3, s4⟩ := add_start w cfg cl
      exact ⟨0, Nat.zero_le _, rfl, s1, s2, s3, s4⟩
    case round =>
      obtain ⟨k, hk, rfl, hr1, hr2, hb, hsz⟩ := hrel
      have c1 := hr2.cell (i := 0) (by omega)
      simp only [cells54, if_true] at c1
      have c2 := hr2.cell (i := 1) (by omega)
      simp only [cells54, Nat.succ_ne_zero, if_false] at c2
      have f2 := hr2.frozen 1
      by_cases hlt : k < cl
      · first
        | (exfalso; omega)
        | (have c3 := (hb.cell (World.block_lt_of_cell? w _ (hc k hlt))).trans (hc k hlt)
           have hblt : b < w.heap.size := World.block_lt_of_cell? w _ (hc k hlt)
           have hne1 : ¬ b = w.heap.size := by omega
           have hne2 : ¬ w.heap.size = b := by omega
           have c4 := hr1.cell hlt
           simp only [cells52, Nat.lt_irrefl, if_false] at c4
           have f4 := hr1.frozen k
           obtain ⟨s1, s2, s3, s4⟩ := add_step hr1 hr2 hb hsz
           have SS := And.intro s1 (And.intro s2 (And.intro s3 s4))
           have SH : Hid _ := SS
           clear SS s1 s2 s3 s4 hr1 hr2 hb hsz
           clear hc
           go_wp2
           go_region_held3 (fun w' => w'.cell? ⟨w.heap.size + 1, 0, none⟩ = some (.slice (some ⟨w.heap.size, 0, none⟩) cl cl) ∧ w'.cell? ⟨b, off + k, none⟩ = some (.int .i64 (cfg.getD k 0))) (go_keep)
             ((go_at_call 17; refine (store_any _ _ 0 _ _ ?_ ?_).mono ?_; (simp [c4]); (simp [f4]); rintro e w' ⟨rfl, rfl⟩))
           go_wp2
           go_roundw
           case rel => exact ⟨k + 1, by omega, by go_num, SH.out.1, SH.out.2.1, SH.out.2.2.1, SH.out.2.2.2⟩
           case measure => simp [intOf]; omega)
      · have cs := (hb.cell (p := ⟨sb, 0, none⟩) hslt).trans (hs.cell (i := 0) (by omega))
        have hne1 : ¬ sb = w.heap.size + 1 := by omega
        have hne2 : ¬ w.heap.size + 1 = sb := by omega
        have hmr := ownsMap_below hm hb hmlt
        have HR : Hid (wr.rowIs w.heap.size 52 cl (cells52 cfg k) ∧ wr.rowIs (w.heap.size + 1) 54 2 (cells54 w.heap.size cl 0) ∧ Below w.heap.size w wr ∧ k = cl) := ⟨hr1, hr2, hb, by omega⟩
        clear hr1 hr2 hb
        go_wp2_with (first
          | (go_at_call 17; refine (store_any _ _ 0 _ _ ?_ ?_).mono ?_; (exact c2); (exact f2); rintro e w' ⟨rfl, rfl⟩)
          | (at_mapUpdate; refine wpList_mapUpdate_own _ rfl _ _ _ 42 rfl 9 40 law9 Try.underlying42 ptrElem mb n D rfl (hmr.setCell (by simp; omega) _) hn _ _ (keyLit id) rfl rfl (Go.WideMaps.keyOf_string_mk Try.underlying9 hid) (.lit (.int .i64 (w.heap.size + 1 : Nat))) [] (ptrElem_mk _) ?_; intro w2 hown2 hg2))
        obtain ⟨t1, t2, t3, t4⟩ := HR.out
        have t5 := add_key HL.out t4 hr hmlt hm t1 t2 t3 hg2
        have T5 : Hid _ := t5
        clear t1 t2 t3 t4 t5 HR
        go_end0
        exact ⟨rfl, w.heap.size + 1, hown2, T5.out.1, T5.out.2⟩

end Go.Proofs.Qxb6631263a
