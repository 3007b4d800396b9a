/-
  The contract of spec.Same at two lists of one and the same byte.
-/
import Derived.Test.YtbgejedfdhnfpaaDoorSrc
import Derived.Deep.LoopGhost
namespace Go.Proofs.YtbgejedfdhnfpaaDoor
open Go.RowKit

set_option maxHeartbeats 800000 in
theorem same_one (g b off c1 c2 : Nat) (z : Int) (w : World) (h1 : w.cell? ⟨g, 0, none⟩ = some (.int .u8 z)) (h2 : w.cell? ⟨b, off, none⟩ = some (.int .u8 z)) :
    Calls Tryd.prog 7 #[.slice (some ⟨g, 0, none⟩) 1 c1, .slice (some ⟨b, off, none⟩) 1 c2] w fun e w' => e = .returned (.bool true) ∧ ∃ n, w' = w.drewN n := by
  go_enter Tryd.func7, Tryd.ntmps7
  go_wp2_with fail
  go_loopg [13] 1 (fun k i wr => k ≤ 1 ∧ i = .int .i64 (1 - k : Int) ∧ Hid (∃ n, wr = w.drewN n))
  case atStart => exact ⟨by omega, rfl, ⟨0, rfl⟩⟩
  case round =>
    obtain ⟨hk, rfl, hw⟩ := hrel
    have hk' : gk = 0 ∨ gk = 1 := by omega
    obtain ⟨nn, hwr⟩ := hw.out
    subst hwr
    clear hw hk
    rcases hk' with rfl | rfl
    · go_wp2
      go_ret
      exact ⟨rfl, nn, rfl⟩
    · go_wp2_with fail
      go_quiet (fail)
      go_wp2_with fail
      go_roundg 0
      case measure => omega
      case rel => exact ⟨by omega, by simp, ⟨_, rfl⟩⟩
end Go.Proofs.YtbgejedfdhnfpaaDoor
