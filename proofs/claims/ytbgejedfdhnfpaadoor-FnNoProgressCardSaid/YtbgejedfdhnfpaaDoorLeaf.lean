/-
  The contracts of (*bufio.Reader).Buffered and readErr, for a reader whose block is known.
-/
import Derived.Test.YtbgejedfdhnfpaaDoorChecked
import Derived.Test.YtbgejedfdhnfpaaDoorWords
import Derived.WalkKit
import Derived.WalkSpells
import Derived.WalkLawsBesides
import Derived.Deep.QuietTactic
import Derived.BigQuiet
import Derived.RowKitTokens
import Derived.Lib.Hide
namespace Go.Proofs.YtbgejedfdhnfpaaDoor
open Go.RowKit

/-- The cells of a bufio.Reader. -/
def rdr (buf rd : Value) (r w : Int) (err : Value) (lb lr : Int) : Array Value := #[buf, rd, .int .i64 r, .int .i64 w, err, .int .i64 lb, .int .i64 lr]

set_option maxHeartbeats 400000 in
theorem buffered_any (R : Nat) (buf rd err : Value) (r m lb lr : Int) (w : World) (h : Blk w R 53 (rdr buf rd r m err lb lr)) (h0 : 0 ≤ r) (h1 : r ≤ m) (h2 : m ≤ 9223372036854775807) :
    Calls Tryd.prog 13 #[.pointer (some ⟨R, 0, none⟩)] w fun e w' => e = .returned (.int .i64 (m - r)) ∧ ∃ n, w' = w.drewN n := by
  have c2 : w.cell? ⟨R, 2, none⟩ = some (.int .i64 r) := h.cell 2
  have c3 : w.cell? ⟨R, 3, none⟩ = some (.int .i64 m) := h.cell 3
  clear h
  go_enter Tryd.func13, Tryd.ntmps13
  go_wp2
  go_quiet (fail)
  go_wp2
  go_ret
  exact ⟨rfl, _, rfl⟩

set_option maxHeartbeats 400000 in
theorem readErr_any (R : Nat) (buf rd err : Value) (he : IsIface err) (r m lb lr : Int) (w : World) (h : Blk w R 53 (rdr buf rd r m err lb lr)) :
    Calls Tryd.prog 27 #[.pointer (some ⟨R, 0, none⟩)] w fun e w' => e = .returned err ∧ Blk w' R 53 (rdr buf rd r m .nilIface lb lr) ∧ Kept [R] w w' := by
  have c4 : w.cell? ⟨R, 4, none⟩ = some err := h.cell 4
  have f4 := h.frozen 4
  have H := Lib.hid h
  clear h
  cases err <;> simp only [IsIface] at he
  all_goals
    go_enter Tryd.func27, Tryd.ntmps27
    go_wp2
    go_ret
    exact ⟨rfl, H.out.set_ 4 _, (Kept.refl _ _).setCell (by simp) _⟩
end Go.Proofs.YtbgejedfdhnfpaaDoor
