/-
  The contract of impl.code at io.ErrNoProgress: it returns 6. Condition: the six variables of errors that code lists hold six pointers, that of io.ErrNoProgress another one than the other five.
-/
import Derived.Test.YtbgejedfdhnfpaaDoorLeaf
import Derived.LaidEql
namespace Go.Proofs.YtbgejedfdhnfpaaDoor
open Go.RowKit

/-- An error that errors.New has made. -/
abbrev ev (a : Addr) : Value := .iface 90 (.pointer (some a))

/-- What the variables of errors hold, below block B. -/
structure Errs (B : Nat) (w : World) (a0 a1 a3 a4 a5 a6 : Addr) : Prop where
  g0 : w.cell? ⟨0, 0, none⟩ = some (ev a0)
  g1 : w.cell? ⟨1, 0, none⟩ = some (ev a1)
  g3 : w.cell? ⟨3, 0, none⟩ = some (ev a3)
  g4 : w.cell? ⟨4, 0, none⟩ = some (ev a4)
  g5 : w.cell? ⟨5, 0, none⟩ = some (ev a5)
  g6 : w.cell? ⟨6, 0, none⟩ = some (ev a6)
  b0 : ∃ c t, w.heap[a0.block]? = some (.cells c t (0, 0))
  b1 : ∃ c t, w.heap[a1.block]? = some (.cells c t (0, 0))
  b3 : ∃ c t, w.heap[a3.block]? = some (.cells c t (0, 0))
  b4 : ∃ c t, w.heap[a4.block]? = some (.cells c t (0, 0))
  b5 : ∃ c t, w.heap[a5.block]? = some (.cells c t (0, 0))
  b6 : ∃ c t, w.heap[a6.block]? = some (.cells c t (0, 0))
  l0 : a0.block < B
  l1 : a1.block < B
  l3 : a3.block < B
  l4 : a4.block < B
  l5 : a5.block < B
  l6 : a6.block < B
  lg : 7 ≤ B
  n0 : a6 ≠ a0
  n1 : a6 ≠ a1
  n3 : a6 ≠ a3
  n4 : a6 ≠ a4
  n5 : a6 ≠ a5

theorem Errs.below {B : Nat} {w w' : World} {a0 a1 a3 a4 a5 a6 : Addr} (E : Errs B w a0 a1 a3 a4 a5 a6) (h : Below B w w') : Errs B w' a0 a1 a3 a4 a5 a6 :=
  have lg := E.lg
  { g0 := (h.cell (p := ⟨0, 0, none⟩) (by show 0 < B; omega)).trans E.g0, g1 := (h.cell (p := ⟨1, 0, none⟩) (by show 1 < B; omega)).trans E.g1, g3 := (h.cell (p := ⟨3, 0, none⟩) (by show 3 < B; omega)).trans E.g3,
    g4 := (h.cell (p := ⟨4, 0, none⟩) (by show 4 < B; omega)).trans E.g4, g5 := (h.cell (p := ⟨5, 0, none⟩) (by show 5 < B; omega)).trans E.g5, g6 := (h.cell (p := ⟨6, 0, none⟩) (by show 6 < B; omega)).trans E.g6,
    b0 := by rw [h.block _ E.l0]; exact E.b0
    b1 := by rw [h.block _ E.l1]; exact E.b1
    b3 := by rw [h.block _ E.l3]; exact E.b3
    b4 := by rw [h.block _ E.l4]; exact E.b4
    b5 := by rw [h.block _ E.l5]; exact E.b5
    b6 := by rw [h.block _ E.l6]; exact E.b6
    l0 := E.l0, l1 := E.l1, l3 := E.l3, l4 := E.l4, l5 := E.l5, l6 := E.l6, lg := E.lg, n0 := E.n0, n1 := E.n1, n3 := E.n3, n4 := E.n4, n5 := E.n5 }

theorem Tryd.info90 : (Tryd.prog.info? 90).map (·.comparable) = some true := by kernel_rfl
theorem Tryd.info112 : (Tryd.prog.info? 112).map (fun i => decide (i.size ≠ 0)) = some true := by kernel_rfl

theorem eql_other (w : World) (a b : Addr) (h : a ≠ b) (ha : ∃ c t, w.heap[a.block]? = some (.cells c t (0, 0))) (hb : ∃ c t, w.heap[b.block]? = some (.cells c t (0, 0))) :
    (binOp .eql 44 (ev a) (ev b)).run Tryd.prog w = .ok (.bool false) w := by
  obtain ⟨ca, ta, ha⟩ := ha
  obtain ⟨cb, tb, hb⟩ := hb
  obtain ⟨i, hi, hc⟩ := Option.map_eq_some_iff.1 Tryd.info90
  obtain ⟨j, hj, hs⟩ := Option.map_eq_some_iff.1 Tryd.info112
  exact run_eql_iface_ptr_other w Tryd.underlying44 Tryd.underlying90 hi hc hj (of_decide_eq_true hs) h ha hb

theorem eql_same (w : World) (a : Addr) : (binOp .eql 44 (ev a) (ev a)).run Tryd.prog w = .ok (.bool true) w := by
  obtain ⟨i, hi, hc⟩ := Option.map_eq_some_iff.1 Tryd.info90
  obtain ⟨j, hj, _⟩ := Option.map_eq_some_iff.1 Tryd.info112
  exact run_eql_iface_ptr_same w a Tryd.underlying44 Tryd.underlying90 hi hc hj

theorem blk_alloc {w : World} {a : Addr} (o : Obj) (h : ∃ c t, w.heap[a.block]? = some (.cells c t (0, 0))) : ∃ c t, (w.alloc o).heap[a.block]? = some (.cells c t (0, 0)) := by
  obtain ⟨c, t, h⟩ := h
  exact ⟨c, t, Blk.alloc (w := w) h o⟩

set_option maxHeartbeats 800000 in
theorem code_np {B : Nat} (a0 a1 a3 a4 a5 a6 : Addr) (w : World) (E : Errs B w a0 a1 a3 a4 a5 a6) :
    Calls Tryd.prog 16 #[ev a6] w fun e w' => e = .returned (.int .i64 6) ∧ Kept [] w w' := by
  have g0 := E.g0
  have g1 := E.g1
  have g3 := E.g3
  have g4 := E.g4
  have g5 := E.g5
  have g6 := E.g6
  have e0 := fun o => eql_other (w.alloc o) a6 a0 E.n0 (blk_alloc o E.b6) (blk_alloc o E.b0)
  have e1 := fun o => eql_other (w.alloc o) a6 a1 E.n1 (blk_alloc o E.b6) (blk_alloc o E.b1)
  have e3 := fun o => eql_other (w.alloc o) a6 a3 E.n3 (blk_alloc o E.b6) (blk_alloc o E.b3)
  have e4 := fun o => eql_other (w.alloc o) a6 a4 E.n4 (blk_alloc o E.b6) (blk_alloc o E.b4)
  have e5 := fun o => eql_other (w.alloc o) a6 a5 E.n5 (blk_alloc o E.b6) (blk_alloc o E.b5)
  have e6 := fun o => eql_same (w.alloc o) a6
  clear E
  go_enter Tryd.func16, Tryd.ntmps16
  go_wp2
  go_loop [13] (fun i => ∃ k : Nat, k ≤ 6 ∧ i = .int .i64 k) (fun i => 7 - (intOf i).toNat)
  case atStart => exact ⟨0, by omega, rfl⟩
  case round =>
    obtain ⟨k, hk, rfl⟩ := hrel
    have hk' : k = 0 ∨ k = 1 ∨ k = 2 ∨ k = 3 ∨ k = 4 ∨ k = 5 ∨ k = 6 := by omega
    clear hk
    rcases hk' with rfl | rfl | rfl | rfl | rfl | rfl | rfl
    · go_wp2
      go_round
      case rel => exact ⟨1, by omega, by go_num⟩
      case measure => simp [intOf]
    · go_wp2
      go_round
      case rel => exact ⟨2, by omega, by go_num⟩
      case measure => simp [intOf]
    · go_wp2
      go_round
      case rel => exact ⟨3, by omega, by go_num⟩
      case measure => simp [intOf]
    · go_wp2
      go_round
      case rel => exact ⟨4, by omega, by go_num⟩
      case measure => simp [intOf]
    · go_wp2
      go_round
      case rel => exact ⟨5, by omega, by go_num⟩
      case measure => simp [intOf]
    · go_wp2
      go_round
      case rel => exact ⟨6, by omega, by go_num⟩
      case measure => simp [intOf]
    · go_wp2
      go_ret
      exact ⟨rfl, (Kept.refl _ _).alloc _⟩
end Go.Proofs.YtbgejedfdhnfpaaDoor
