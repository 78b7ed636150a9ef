import Derived.Test.Qxb6631263aProg
import Derived.WalkKit
import Derived.WalkSpells
import Derived.WalkLawsBesides
namespace Go.Proofs.Qxb6631263a
open Go.RowKit

theorem load_any (b off : Nat) (n : Int) (w : World) (h0 : w.cell? ⟨b, off, none⟩ = some (.int .i64 n)) :
    Calls Try.prog 16 #[.pointer (some ⟨b, off, none⟩)] w fun e w' => e = .returned (.int .i64 n) ∧ w' = w := by
  have hld := run_call_load (P := Try.prog) Try.func18 (by kernel_rfl) (by kernel_rfl) (by kernel_rfl) .i64 (by kernel_rfl) h0
  go_enter Try.func16, Try.ntmps16
  go_wp2
  go_ret
  exact ⟨rfl, rfl⟩

theorem store_any (b off : Nat) (o n : Int) (w : World) (h0 : w.cell? ⟨b, off, none⟩ = some (.int .i64 o)) (f0 : w.frozen? ⟨b, off, none⟩ = false) :
    Calls Try.prog 17 #[.pointer (some ⟨b, off, none⟩), .int .i64 n] w fun e w' => e = .returned (.tuple #[]) ∧ w' = w.setCell ⟨b, off, none⟩ (.int .i64 n) := by
  have hld := run_call_store (P := Try.prog) Try.func19 (by kernel_rfl) (by kernel_rfl) (by kernel_rfl) (by kernel_rfl) (k := .i64) (y := n) h0 f0
  go_enter Try.func17, Try.ntmps17
  go_wp2
  go_end0
  exact ⟨rfl, rfl⟩

end Go.Proofs.Qxb6631263a
