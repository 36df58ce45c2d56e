/- decodeIntegrityProtectionMaximumDataRate and the bounds. -/
import Derived.Test.Qxb6613199aRows
import Derived.WalkKit
import Derived.WalkSpells
import Derived.WalkLawsBesides
import Derived.BigQuiet
import Derived.Deep.QuietTactic
import Derived.Laws.CopyOwn
namespace Go.Proofs.Qxb6613199a
open Go.RowKit

set_option maxHeartbeats 1000000 in
theorem dec8 (g off n cap : Nat) (u v : Int) (w : World) (hn : 2 ≤ n) (h0 : w.cell? ⟨g, off, none⟩ = some (.int .u8 u)) (h1 : w.cell? ⟨g, off + 1, none⟩ = some (.int .u8 v)) :
    Calls Try.prog 8 #[.slice (some ⟨g, off, none⟩) n cap] w fun e w' => e = .returned (.pointer (some ⟨w.heap.size, 0, none⟩)) ∧ w' = (w.alloc (.cells #[.int .u8 u, .int .u8 v] 27)).drew := by
  have hn0 : (0 : Int) < (n : Int) := by omega
  have hn1 : (1 : Int) < (n : Int) := by omega
  go_enter Try.func8, Try.ntmps8
  go_wp2
  go_region
  all_goals
    go_wp2
    go_ret
    exact ⟨rfl, rfl⟩

set_option maxHeartbeats 1000000 in
theorem dec6 (g off n cap : Nat) (u v : Int) (w : World) (hn : 2 ≤ n) (h0 : w.cell? ⟨g, off, none⟩ = some (.int .u8 u)) (h1 : w.cell? ⟨g, off + 1, none⟩ = some (.int .u8 v)) :
    Calls Try.prog 6 #[.slice (some ⟨g, off, none⟩) n cap] w fun e w' => e = .returned (.pointer (some ⟨w.heap.size, 0, none⟩)) ∧ w' = (w.alloc (.cells #[.int .u8 u, .int .u8 v] 27)).drew := by
  go_enter Try.func6, Try.ntmps6
  go_wp2_with (go_at_call 8; refine (dec8 _ _ _ _ _ _ _ hn h0 h1).mono ?_; rintro e w' ⟨rfl, rfl⟩)
  go_ret
  exact ⟨rfl, rfl⟩
end Go.Proofs.Qxb6613199a
