import Derived.Test.Qxb6631263aLawB
namespace Go.Proofs.Qxb6631263a
open Go.RowKit Go.Maps

set_option maxHeartbeats 1600000 in
theorem lawB_early (a : Option Addr) (len cap : Nat) (R : Nat → RowD) (x : RowD) (j : Int) (id : ByteArray) (w : World) (hml : len ≤ maxLen) (hid : id.size ≤ maxLen) (hxi : x.id.size ≤ maxLen) (hxc : x.cl ≤ maxLen)
    (h : RowsAt w a len R) (he : (1048576 : Int) < (id.size : Int) ∨ ((id.size : Int) ≤ 1048576 ∧ (131072 : Int) < (x.cl : Int)) ∨ ((id.size : Int) ≤ 1048576 ∧ (x.cl : Int) ≤ 131072 ∧ j < 0) ∨ ((id.size : Int) ≤ 1048576 ∧ (x.cl : Int) ≤ 131072 ∧ 0 ≤ j ∧ (len : Int) < j)) :
    Calls Try.prog 4 #[.slice a len cap, .agg #[.string x.id, .slice x.ca x.cl x.cc, .int .i64 x.past], .int .i64 j, .string id] w fun e w' => e = .returned (.bool true) ∧ Below w.heap.size w w' := by
  have hB := base_start w x
  have hh := h.kept (kept_of_below hB.b)
  go_enter Try.func4, Try.ntmps4
  go_wp2_with fail
  refine (bytes11_any a len cap R x j id _ hml hid hxi hxc hh).mono ?_
  rintro e w1 ⟨t, rfl, hb1, ht⟩
  have hB1 := hB.next hb1
  have hh1 := h.kept (kept_of_below hB1.b)
  clear hb1 hh hB
  have HB1 : Hid (Base w w1 x) := hB1
  cases t
  · clear hB1 ht hh1 he
    go_wp2
    go_ret
    exact ⟨rfl, HB1.out.b⟩
  obtain ⟨hl, hsm, hxcl, hxid⟩ := ht rfl
  clear ht
  have c0 := hB1.c0
  have c1 := hB1.c1
  have c2 := hB1.c2
  clear hB1
  rcases he with he | ⟨he1, he⟩ | ⟨he1, he2, he⟩ | ⟨he1, he2, he3, he⟩
  · clear hh1
    go_wp2
    go_ret
    exact ⟨rfl, HB1.out.b⟩
  · clear hh1
    go_wp2
    go_ret
    exact ⟨rfl, HB1.out.b⟩
  · go_wp2_with fail
    refine (tooBig_any a len cap R _ _ hl hh1).mono ?_
    rintro e w1 ⟨t, rfl, rfl⟩
    cases t
    all_goals
      clear hh1
      go_wp2
      go_ret
      exact ⟨rfl, HB1.out.b⟩
  · go_wp2_with fail
    refine (tooBig_any a len cap R _ _ hl hh1).mono ?_
    rintro e w1 ⟨t, rfl, rfl⟩
    cases t
    all_goals
      clear hh1
      go_wp2
      go_ret
      exact ⟨rfl, HB1.out.b⟩

theorem lawB (a : Option Addr) (len cap : Nat) (R : Nat → RowD) (x : RowD) (j : Int) (id : ByteArray) (w : World) (hml : len ≤ maxLen) (hid : id.size ≤ maxLen) (hxi : x.id.size ≤ maxLen) (hxc : x.cl ≤ maxLen)
    (h : RowsAt w a len R) (hx : CfgAt w x) :
    Calls Try.prog 4 #[.slice a len cap, .agg #[.string x.id, .slice x.ca x.cl x.cc, .int .i64 x.past], .int .i64 j, .string id] w fun e w' => e = .returned (.bool true) ∧ Below w.heap.size w w' := by
  by_cases h1 : (1048576 : Int) < (id.size : Int)
  · exact lawB_early a len cap R x j id w hml hid hxi hxc h (Or.inl h1)
  by_cases h2 : (131072 : Int) < (x.cl : Int)
  · exact lawB_early a len cap R x j id w hml hid hxi hxc h (Or.inr (Or.inl ⟨by omega, h2⟩))
  by_cases h3 : j < 0
  · exact lawB_early a len cap R x j id w hml hid hxi hxc h (Or.inr (Or.inr (Or.inl ⟨by omega, by omega, h3⟩)))
  by_cases h4 : (len : Int) < j
  · exact lawB_early a len cap R x j id w hml hid hxi hxc h (Or.inr (Or.inr (Or.inr ⟨by omega, by omega, by omega, h4⟩)))
  obtain ⟨jn, rfl⟩ := Int.eq_ofNat_of_zero_le (show 0 ≤ j by omega)
  by_cases h0 : 0 < len
  · obtain ⟨b, off, hab, hc⟩ := h.1 h0
    exact lawB_in b off a len cap R x jn id w hml hid hxi hxc (Or.inr hab) hc h hx (by omega) (by omega) (by omega)
  · exact lawB_in 0 0 a len cap R x jn id w hml hid hxi hxc (Or.inl (by omega)) (fun i hi => by omega) h hx (by omega) (by omega) (by omega)

end Go.Proofs.Qxb6631263a
