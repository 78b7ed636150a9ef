import Derived.Test.Qxb6632283aPlain
import Derived.Deep.Cut
namespace Go.Proofs.Qxb6632283a
open Go.RowKit

def AnsCounts (w : World) (y : Nat → Nat) (p : Nat) (e : Ending) (w' : World) : Prop :=
  e = .returned (.agg #[.int .i64 (cnt y 3 p : Int), .int .i64 (cnt y 2 p : Int), .int .i64 (cnt y 0 p : Int), .int .i64 (cnt y 1 p : Int)]) ∧ Below w.heap.size w w'

/-- While Counts runs: the row's box, the result's cells, the four counters after m persons. -/
structure CS (w wr : World) (a : Option Addr) (len cap p : Nat) (y : Nat → Nat) (m : Nat) : Prop where
  row : wr.rowIs (w.heap.size + 1 + 1) 31 4 (cntFn y m)
  box : wr.rowIs w.heap.size 27 2 (fun t => if t = 0 then .slice a len cap else .int .i64 (p : Int))
  res : wr.rowIs (w.heap.size + 1) 25 4 (fun _ => .int .i64 0)
  b : Below w.heap.size w wr

theorem CS.step {w wr : World} {a : Option Addr} {len cap p m d : Nat} {y : Nat → Nat} (h : CS w wr a len cap p y m) (hd : dg y m = d) :
    CS w (wr.setCell ⟨w.heap.size + 1 + 1, d, none⟩ (.int .i64 ((cnt y d m : Int) + 1))) a len cap p y (m + 1) :=
  ⟨cnt_step h.row hd, h.box.setOther (by simp; omega) _, h.res.setOther (by simp) _, h.b.setCell (by simp; omega) _⟩

theorem cs_start (w : World) (a : Option Addr) (len cap p : Nat) (y : Nat → Nat) :
    CS w (((w.alloc (.cells #[.slice a len cap, .int .i64 (p : Int)] 27)).alloc (.cells #[.int .i64 0, .int .i64 0, .int .i64 0, .int .i64 0] 25)).alloc (.cells #[.int .i64 0, .int .i64 0, .int .i64 0, .int .i64 0] 31)) a len cap p y 0 := by
  have h4 : ∀ i, i < (#[Value.int .i64 0, .int .i64 0, .int .i64 0, .int .i64 0] : Array Value).size → (#[Value.int .i64 0, .int .i64 0, .int .i64 0, .int .i64 0] : Array Value)[i]? = some (.int .i64 0) := by
    intro i hi
    rcases (show i = 0 ∨ i = 1 ∨ i = 2 ∨ i = 3 from by simp at hi; omega) with rfl | rfl | rfl | rfl <;> rfl
  have b1 := World.rowIs_alloc w #[.slice a len cap, .int .i64 (p : Int)] 27 (fun t => if t = 0 then .slice a len cap else .int .i64 (p : Int)) (by
    intro i hi
    rcases (show i = 0 ∨ i = 1 from by simp at hi; omega) with rfl | rfl <;> rfl)
  have b2 := World.rowIs_alloc (w.alloc (.cells #[.slice a len cap, .int .i64 (p : Int)] 27)) #[.int .i64 0, .int .i64 0, .int .i64 0, .int .i64 0] 25 (fun _ => .int .i64 0) h4
  have b3 := World.rowIs_alloc ((w.alloc (.cells #[.slice a len cap, .int .i64 (p : Int)] 27)).alloc (.cells #[.int .i64 0, .int .i64 0, .int .i64 0, .int .i64 0] 25)) #[.int .i64 0, .int .i64 0, .int .i64 0, .int .i64 0] 31 (fun _ => .int .i64 0) h4
  simp only [World.size_alloc] at b2 b3
  exact ⟨b3.congr (fun i _ => by simp [cntFn, cnt]), (b1.alloc _).alloc _, b2.alloc _, (((Below.refl _ _).alloc (Nat.le_refl _) _).alloc (by simp) _).alloc (by simp; omega) _⟩

set_option maxHeartbeats 1600000 in
theorem counts_any (a : Option Addr) (ab ao len cap p : Nat) (y : Nat → Nat) (w : World) (hl : len ≤ 1048576) (hlc : len ≤ cap) (hp : p ≤ 4 * len) (hb : BytesAt w a ab ao len y) :
    Calls Try.prog 7 #[.agg #[.slice a len cap, .int .i64 (p : Int)]] w (AnsCounts w y p) := by
  have HB : Hid (BytesAt w a ab ao len y) := hb
  obtain ⟨f, r, hpf, hr⟩ : ∃ f r : Nat, p = 4 * f + r ∧ r < 4 := ⟨p / 4, p % 4, by omega, by omega⟩
  have hdiv : (p : Int) / 4 = (f : Int) := by omega
  have hmod : (p : Int) % 4 = (r : Int) := by omega
  have hdivn : p / 4 = f := by omega
  have hfl : f ≤ len := by omega
  have hfl2 : 0 < r → f < len := by omega
  have hs := cs_start w a len cap p y
  have HPF : Hid (p = 4 * f + r) := hpf
  clear hb hpf
  go_enter Try.func7, Try.ntmps7
  go_wp2
  go_loopw [18] (fun i wr => ∃ t : Nat, t ≤ f ∧ i = .int .i64 t ∧ CS w wr a len cap p y (4 * t)) (fun i _ => f - (intOf i).toNat)
  case atStart => exact ⟨0, Nat.zero_le _, rfl, hs⟩
  case round =>
    clear hs
    obtain ⟨t, ht, rfl, hC⟩ := hrel
    by_cases hlt : t < f
    · obtain rfl : a = some ⟨ab, ao, none⟩ := HB.out.form.resolve_left (by omega)
      have htl : t < len := by omega
      have cb := kept_of_below hC.b _ _ (HB.out.cell t htl)
      have hy := HB.out.lt t htl
      obtain ⟨d0, hd0, e0⟩ : ∃ d0 : Nat, dg y (4 * t) = d0 ∧ bits BinOp.and IntKind.u8 (y t : Int) 3 = (d0 : Int) := ⟨_, rfl, by
        rw [and3 _ hy, show 4 * t = 4 * t + 0 from rfl, dg_at _ _ _ (by omega)]; simp⟩
      have l0 : d0 < 4 := by rw [← hd0]; exact dg_lt _ _
      have c0 := hC.row.cell l0
      simp only [cntFn] at c0
      have g0 := hC.row.frozen d0
      have k0 := cnt_le y d0 (4 * t)
      have HC1 : Hid _ := hC.step hd0
      clear hC hd0
      go_upto_region 7 with (fail)
      have h1 := HC1.out
      clear HC1 c0 g0 cb
      generalize hw1 : World.setCell wr ⟨w.heap.size + 1 + 1, d0, none⟩ (.int .i64 ((cnt y d0 (4 * t) : Int) + 1)) = w1 at h1 ⊢
      clear hw1 e0 l0 k0
      obtain ⟨d1, hd1, e1⟩ : ∃ d1 : Nat, dg y (4 * t + 1) = d1 ∧ bits BinOp.and IntKind.u8 ((y t : Int) / 4) 3 = (d1 : Int) := ⟨_, rfl, by
        rw [show ((y t : Int) / 4) = ((y t / 4 : Nat) : Int) from by omega, and3 _ (by omega), show 4 * t + 1 = 4 * t + 1 from rfl, dg_at _ _ _ (by omega)]⟩
      have l1 : d1 < 4 := by rw [← hd1]; exact dg_lt _ _
      have c1 := h1.row.cell l1
      simp only [cntFn] at c1
      have g1 := h1.row.frozen d1
      have k1 := cnt_le y d1 (4 * t + 1)
      have HC2 : Hid _ := h1.step hd1
      clear h1 hd1
      go_upto_region 8 with (fail)
      have h2 := HC2.out
      clear HC2 c1 g1 
      generalize hw2 : World.setCell w1 ⟨w.heap.size + 1 + 1, d1, none⟩ (.int .i64 ((cnt y d1 (4 * t + 1) : Int) + 1)) = w2 at h2 ⊢
      clear hw2 e1 l1 k1
      obtain ⟨d2, hd2, e2⟩ : ∃ d2 : Nat, dg y (4 * t + 1 + 1) = d2 ∧ bits BinOp.and IntKind.u8 ((y t : Int) / 16) 3 = (d2 : Int) := ⟨_, rfl, by
        rw [show ((y t : Int) / 16) = ((y t / 16 : Nat) : Int) from by omega, and3 _ (by omega), show 4 * t + 1 + 1 = 4 * t + 2 from rfl, dg_at _ _ _ (by omega)]⟩
      have l2 : d2 < 4 := by rw [← hd2]; exact dg_lt _ _
      have c2 := h2.row.cell l2
      simp only [cntFn] at c2
      have g2 := h2.row.frozen d2
      have k2 := cnt_le y d2 (4 * t + 1 + 1)
      have HC3 : Hid _ := h2.step hd2
      clear h2 hd2
      go_upto_region 9 with (fail)
      have h3 := HC3.out
      clear HC3 c2 g2 
      generalize hw3 : World.setCell w2 ⟨w.heap.size + 1 + 1, d2, none⟩ (.int .i64 ((cnt y d2 (4 * t + 1 + 1) : Int) + 1)) = w3 at h3 ⊢
      clear hw3 e2 l2 k2
      obtain ⟨d3, hd3, e3⟩ : ∃ d3 : Nat, dg y (4 * t + 1 + 1 + 1) = d3 ∧ (y t : Int) / 64 = (d3 : Int) := ⟨_, rfl, by
        rw [show 4 * t + 1 + 1 + 1 = 4 * t + 3 from rfl, dg_at _ _ _ (by omega)]; simp; omega⟩
      have l3 : d3 < 4 := by rw [← hd3]; exact dg_lt _ _
      have c3 := h3.row.cell l3
      simp only [cntFn] at c3
      have g3 := h3.row.frozen d3
      have k3 := cnt_le y d3 (4 * t + 1 + 1 + 1)
      have HC4 : Hid _ := h3.step hd3
      clear h3 hd3
      go_wp2
      go_roundw
      case rel => exact ⟨t + 1, by omega, by go_num, HC4.out⟩
      case measure => simp [intOf]; omega
    · obtain rfl : f = t := by omega
      have b0 := hC.box.cell (i := 0) (by omega)
      have b1 := hC.box.cell (i := 1) (by omega)
      simp only [if_true, Nat.succ_ne_zero, if_false] at b0 b1
      have HC : Hid (CS w wr a len cap p y (4 * f)) := hC
      clear hC
      by_cases hr0 : 0 < r
      · obtain rfl : a = some ⟨ab, ao, none⟩ := HB.out.form.resolve_left (by omega)
        have htl : f < len := by omega
        have cb := kept_of_below HC.out.b _ _ (HB.out.cell f htl)
        go_wp2
        go_loopw [9] (fun i wr => ∃ t : Nat, t ≤ r ∧ i = .int .i64 t ∧ CS w wr (some ⟨ab, ao, none⟩) len cap p y (4 * f + t)) (fun i _ => r - (intOf i).toNat)
        case atStart => exact ⟨0, Nat.zero_le _, rfl, HC.out⟩
        case round =>
          clear b0 b1 cb HC
          obtain ⟨t, ht, rfl, hC⟩ := hrel
          by_cases hlt2 : t < r
          · have hy := HB.out.lt f htl
            obtain ⟨d, hd, hq⟩ : ∃ d : Nat, dg y (4 * f + t) = d ∧ y f / 4 ^ t % 4 = d := ⟨_, dg_at _ _ _ (by omega), rfl⟩
            have l0 : d < 4 := by rw [← hd]; exact dg_lt _ _
            have c0 := hC.row.cell l0
            simp only [cntFn] at c0
            have g0 := hC.row.frozen d
            have k0 := cnt_le y d (4 * f + t)
            have HC1 : Hid _ := hC.step hd
            have e0 : t = 0 → bits BinOp.and IntKind.u8 (y f : Int) 3 = (d : Int) := by
              rintro rfl; rw [and3 _ hy, ← hq]; simp
            have e1 : t = 1 → bits BinOp.and IntKind.u8 ((y f : Int) / 4) 3 = (d : Int) := by
              rintro rfl; rw [show ((y f : Int) / 4) = ((y f / 4 : Nat) : Int) from by omega, and3 _ (by omega), ← hq]
            have e2 : t = 2 → bits BinOp.and IntKind.u8 ((y f : Int) / 16) 3 = (d : Int) := by
              rintro rfl; rw [show ((y f : Int) / 16) = ((y f / 16 : Nat) : Int) from by omega, and3 _ (by omega), ← hq]
            clear hC hd hq hy
            rcases (show t = 0 ∨ t = 1 ∨ t = 2 from by omega) with rfl | rfl | rfl
            · have e := e0 rfl
              simp only [Nat.add_zero] at c0 k0
              clear e0 e1 e2
              go_wp2
              go_roundw
              case rel => exact ⟨1, by omega, by go_num, HC1.out⟩
              case measure => simp [intOf]; omega
            · have e := e1 rfl
              clear e0 e1 e2
              go_wp2
              go_roundw
              case rel => exact ⟨2, by omega, by go_num, HC1.out⟩
              case measure => simp [intOf]; omega
            · have e := e2 rfl
              clear e0 e1 e2
              go_wp2
              go_roundw
              case rel => exact ⟨3, by omega, by go_num, HC1.out⟩
              case measure => simp [intOf]; omega
          · obtain rfl : r = t := by omega
            rw [← HPF.out] at hC
            have n0 := hC.row.cell (i := 0) (by omega)
            have n1 := hC.row.cell (i := 1) (by omega)
            have n2 := hC.row.cell (i := 2) (by omega)
            have n3 := hC.row.cell (i := 3) (by omega)
            have s0 := hC.res.cell (i := 0) (by omega)
            have s1 := hC.res.cell (i := 1) (by omega)
            have s2 := hC.res.cell (i := 2) (by omega)
            have s3 := hC.res.cell (i := 3) (by omega)
            have z0 := hC.res.frozen 0
            have z1 := hC.res.frozen 1
            have z2 := hC.res.frozen 2
            have z3 := hC.res.frozen 3
            have HC : Hid (CS w wr (some ⟨ab, ao, none⟩) len cap p y p) := hC
            clear hC
            simp only [cntFn] at n0 n1 n2 n3
            go_wp2
            refine bodyPost_ret (v := .agg #[.int .i64 (cnt y 3 p : Int), .int .i64 (cnt y 2 p : Int), .int .i64 (cnt y 0 p : Int), .int .i64 (cnt y 1 p : Int)]) (by simp [results, Try.results7, go_sem, s0, s1, s2, s3]) rfl ⟨rfl, ?_⟩
            exact (((HC.out.b.setCell (by simp) _).setCell (by simp) _).setCell (by simp) _).setCell (by simp) _
      · have hC := HC.out
        have h4 : 4 * f = p := by have := HPF.out; omega
        rw [h4] at hC
        clear HC h4
        have n0 := hC.row.cell (i := 0) (by omega)
        have n1 := hC.row.cell (i := 1) (by omega)
        have n2 := hC.row.cell (i := 2) (by omega)
        have n3 := hC.row.cell (i := 3) (by omega)
        have s0 := hC.res.cell (i := 0) (by omega)
        have s1 := hC.res.cell (i := 1) (by omega)
        have s2 := hC.res.cell (i := 2) (by omega)
        have s3 := hC.res.cell (i := 3) (by omega)
        have z0 := hC.res.frozen 0
        have z1 := hC.res.frozen 1
        have z2 := hC.res.frozen 2
        have z3 := hC.res.frozen 3
        have HC : Hid (CS w wr a len cap p y p) := hC
        clear hC
        simp only [cntFn] at n0 n1 n2 n3
        go_wp2
        refine bodyPost_ret (v := .agg #[.int .i64 (cnt y 3 p : Int), .int .i64 (cnt y 2 p : Int), .int .i64 (cnt y 0 p : Int), .int .i64 (cnt y 1 p : Int)]) (by simp [results, Try.results7, go_sem, s0, s1, s2, s3]) rfl ⟨rfl, ?_⟩
        exact (((HC.out.b.setCell (by simp) _).setCell (by simp) _).setCell (by simp) _).setCell (by simp) _

theorem bytes5_any (a : Option Addr) (len cap : Nat) (x : Value) (w : World) : Calls Try.prog 5 #[.slice a len cap, x] w fun e w' => e = .returned (.bool (decide (len ≤ 1048576))) ∧ w' = w := by
  by_cases h : len ≤ 1048576
  · have h1 : ¬ (1048576 : Int) < (len : Int) := by omega
    have hd : decide (len ≤ 1048576) = true := by simp [h]
    rw [hd]
    clear hd
    go_enter Try.func5, Try.ntmps5
    go_wp2
    go_ret
    exact ⟨rfl, rfl⟩
  · have h1 : (1048576 : Int) < (len : Int) := by omega
    have hd : decide (len ≤ 1048576) = false := by simp [h]
    rw [hd]
    clear hd
    go_enter Try.func5, Try.ntmps5
    go_wp2
    go_ret
    exact ⟨rfl, rfl⟩

theorem bytes8_any (a : Option Addr) (len cap : Nat) (x z : Value) (w : World) : Calls Try.prog 8 #[.slice a len cap, x, z] w fun e w' => e = .returned (.bool (decide (len ≤ 1048576))) ∧ w' = w := by
  by_cases h : len ≤ 1048576
  · have h1 : ¬ (1048576 : Int) < (len : Int) := by omega
    have hd : decide (len ≤ 1048576) = true := by simp [h]
    rw [hd]
    clear hd
    go_enter Try.func8, Try.ntmps8
    go_wp2
    go_ret
    exact ⟨rfl, rfl⟩
  · have h1 : (1048576 : Int) < (len : Int) := by omega
    have hd : decide (len ≤ 1048576) = false := by simp [h]
    rw [hd]
    clear hd
    go_enter Try.func8, Try.ntmps8
    go_wp2
    go_ret
    exact ⟨rfl, rfl⟩

theorem new6_any (a : Option Addr) (len cap : Nat) (p : Int) (w : World) : Calls Try.prog 6 #[.slice a len cap, .int .i64 p] w fun e w' => e = .returned (.agg #[.slice a len cap, .int .i64 p]) ∧ Below w.heap.size w w' := by
  go_enter Try.func6, Try.ntmps6
  go_wp2
  exact bodyPost_ret (v := .agg #[.slice a len cap, .int .i64 p]) (by simp [results, Try.results6, go_sem]) rfl ⟨rfl, (Below.refl _ _).alloc (Nat.le_refl _) _⟩

end Go.Proofs.Qxb6632283a
