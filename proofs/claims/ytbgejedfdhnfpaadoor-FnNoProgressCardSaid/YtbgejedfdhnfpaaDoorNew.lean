/-
  The contract of bufio.NewReaderSize over a source of the package: a new reader with a buffer of at least 16 bytes. Condition: the size is at most 4096.
-/
import Derived.Test.YtbgejedfdhnfpaaDoorRunW
import Derived.Deep.OwnRows
namespace Go.Proofs.YtbgejedfdhnfpaaDoor
open Go.RowKit

theorem Tryd.info5 : (Tryd.prog.info? 5).map (fun i => (i.zero, i.size, i.bytes)) = some (some (.int .u8 0), 1, 1) := by kernel_rfl

theorem Blk.new2 (w : World) (o : Obj) (t : TypeId) (cs : Array Value) : Blk ((w.alloc o).alloc (.cells cs t)) (w.heap.size + 1) t cs := by
  have := Blk.new (w.alloc o) t cs
  simpa using this

theorem assert_src (S : Nat) (w : World) : (Instr.typeAssert (rdV S) 50 40 true).run Tryd.prog w = .ok (.tuple #[.pointer none, .bool false]) w := by kernel_rfl

set_option maxHeartbeats 800000 in
set_option maxRecDepth 100000 in
theorem new_any (S : Nat) (s : Int) (w : World) (hs : s ≤ 4096) (hs' : -9223372036854775808 ≤ s) :
    Calls Tryd.prog 10 #[rdV S, .int .i64 s] w fun r w' => r = .returned (.pointer (some ⟨w.heap.size, 0, none⟩)) ∧ ∃ m cur, 0 < m ∧ m ≤ 4096 ∧ cur.size = m ∧
      Blk w' w.heap.size 53 (rdr (.slice (some ⟨w.heap.size + 1, 0, none⟩) m m) (rdV S) 0 0 .nilIface (-1) (-1)) ∧ Blk w' (w.heap.size + 1) 5 cur ∧ Kept [] w w' := by
  have has := assert_src S
  by_cases h16 : s < 16
  · obtain ⟨cur, hcs, hmk⟩ : ∃ cur : Array Value, Hid (cur.size = 16) ∧ ∀ W : World, (Instr.makeSlice 22 (.int .i64 16) (.int .i64 16)).run Tryd.prog W = .ok (.slice (some ⟨W.heap.size, 0, none⟩) 16 16) (W.alloc (.cells cur 5)) :=
      ⟨madeCells #[.int .u8 0] 16, size_madeCells _ _, run_make_row' (P := Tryd.prog) 22 5 (.int .u8 0) 1 Tryd.underlying22 Tryd.info5 rfl .i64 .i64 16 (by omega) (by omega)⟩
    go_enter Tryd.func10, Tryd.ntmps10
    go_wp2
    go_end0
    go_wp2
    go_ret
    refine ⟨rfl, 16, cur, by omega, by omega, hcs.out, ?_, ?_, ?_⟩
    · exact (Blk.new w 53 _).alloc _
    · exact Blk.new2 w _ 5 cur
    · exact ((Kept.refl _ _).alloc _).alloc _
  · obtain ⟨m, rfl⟩ : ∃ m : Nat, s = (m : Int) := ⟨s.toNat, by omega⟩
    have hm : 16 ≤ m := by omega
    have hm2 : m ≤ 4096 := by omega
    obtain ⟨cur, hcs, hmk⟩ : ∃ cur : Array Value, Hid (cur.size = m) ∧ ∀ W : World, (Instr.makeSlice 22 (.int .i64 m) (.int .i64 m)).run Tryd.prog W = .ok (.slice (some ⟨W.heap.size, 0, none⟩) m m) (W.alloc (.cells cur 5)) :=
      ⟨madeCells #[.int .u8 0] m, size_madeCells _ _, run_make_row' (P := Tryd.prog) 22 5 (.int .u8 0) 1 Tryd.underlying22 Tryd.info5 rfl .i64 .i64 m (by omega) (by omega)⟩
    clear hs hs' h16
    go_enter Tryd.func10, Tryd.ntmps10
    go_wp2
    go_end0
    go_wp2
    go_ret
    refine ⟨rfl, m, cur, by omega, by omega, hcs.out, ?_, ?_, ?_⟩
    · exact (Blk.new w 53 _).alloc _
    · exact Blk.new2 w _ 5 cur
    · exact ((Kept.refl _ _).alloc _).alloc _
end Go.Proofs.YtbgejedfdhnfpaaDoor
