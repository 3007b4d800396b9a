/-
  What the row's list of variables gives the walk: the variables of errors hold pointers to strings, io.ErrNoProgress another one than the other five that impl.code lists.
-/
import Derived.Test.YtbgejedfdhnfpaaDoorRows
import Derived.Test.YtbgejedfdhnfpaaDoorCode
import Derived.Stop.LaidErr
import Derived.MakeChecks
namespace Go.Proofs.YtbgejedfdhnfpaaDoor
open Go.RowKit Go.ChangeShapes

theorem Tryd.star : "*" ++ "errors.errorString" = "*errors.errorString" := by decide
theorem Tryd.row90 (u : TypeId) (h : Tryd.prog.typeName? 3 u = some "*errors.errorString") : u = 90 :=
  typeName_ptr_named (nm := "errors.errorString") (by rw [Tryd.star]; kernel_rfl) (by kernel_rfl) (by decide) u (by rw [Tryd.star]; exact h)
theorem Tryd.cells112 : Tryd.prog.cellsOf 112 = 1 := by kernel_rfl
theorem Tryd.cells9 : Tryd.prog.cellsOf 9 = 1 := by kernel_rfl

theorem sentinel {n : String} {text : List UInt8} {r : List (String × DataW Unit)} {W : World} {g : Nat}
    (h : laidMet Tryd.prog ((n, .iface "*errors.errorString" (.ptr (.agg [.lit (.string text)]))) :: r) W)
    (hg : Tryd.prog.globalNamed n = some g) (ht : (Tryd.prog.globals[g]?).map (·.type) = some 44) :
    ∃ (a : Addr) (s : ByteArray), W.cell? ⟨g, 0, none⟩ = some (ev a) ∧ W.cell? a = some (.string s) ∧ s.data.toList = text ∧ ∃ c t, W.heap[a.block]? = some (.cells c t (0, 0)) := by
  obtain ⟨ps, ⟨g0, t0, cs0, f0, p0, q0, hg0, ht0, hv0, hd0, _, e0⟩, _, hrows⟩ := h
  obtain rfl := Option.some.inj (hg.symm.trans hg0)
  obtain rfl := Option.some.inj (ht.symm.trans ht0)
  subst e0
  obtain ⟨l0⟩ := cs0
  have ok0 : ∀ u v, l0 = [.iface u v] → Value.okWide Tryd.prog W .any 0 u v := fun u v e => by
    subst e
    exact (hrows g 0 (by simp [MemPlace.row])).2 u v (by simpa using World.var?_cell hg0 hv0 0)
  obtain ⟨a0, s0, rfl, hc0, hs0, _, hp⟩ := errorString_of_trod Tryd.underlying44 Tryd.row90 Tryd.underlying90 Tryd.underlying112 rfl rfl Tryd.underlying9 Tryd.cells112 Tryd.cells9 hd0 ok0
  refine ⟨a0, s0, by simpa using World.var?_cell hg0 hv0 0, hc0, hs0, ?_⟩
  have hspot : a0.spot = none := World.cell?_spot hc0
  exact (hrows a0.block a0.off (by subst hp; simp [MemPlace.row])).1

theorem ne_of_text {W : World} {a b : Addr} {s t : ByteArray} {x y : List UInt8} (ha : W.cell? a = some (.string s)) (hb : W.cell? b = some (.string t)) (hs : s.data.toList = x) (ht : t.data.toList = y) (h : x ≠ y) : a ≠ b := by
  rintro rfl
  rw [ha] at hb
  injection hb with hb
  injection hb with hb
  subst hb
  exact h (hs.symm.trans ht)

theorem errs_of_laid {W : World} (h : laidMetH Tryd.prog Rows.fnNoProgressRow.laid W) : ∃ a0 a1 a3 a4 a5 a6, Errs W.heap.size W a0 a1 a3 a4 a5 a6 := by
  rw [MakeChecks.laidMetH_plain _ _ _ (by kernel_rfl)] at h
  have h := (show laidMet Tryd.prog [("io.EOF", Rows.laid_io_EOF), ("io.ErrNoProgress", Rows.laid_io_ErrNoProgress), ("bufio.ErrInvalidUnreadByte", Rows.laid_bufio_ErrInvalidUnreadByte), ("bufio.ErrBufferFull", Rows.laid_bufio_ErrBufferFull), ("bufio.ErrNegativeCount", Rows.laid_bufio_ErrNegativeCount), ("bufio.errNegativeRead", Rows.laid_bufio_errNegativeRead), ("bufio.errNegativeWrite", Rows.laid_bufio_errNegativeWrite), ("loop.example/lib-g01432/impl.errBroken", Rows.laid_loop_example_lib_g01432_impl_errBroken)] W from h)
  obtain ⟨a0, s0, c0, d0, t0, b0⟩ := sentinel (g := 0) h (by kernel_rfl) (by kernel_rfl)
  obtain ⟨a6, s6, c6, d6, t6, b6⟩ := sentinel (g := 6) h.tail (by kernel_rfl) (by kernel_rfl)
  obtain ⟨a5, s5, c5, d5, t5, b5⟩ := sentinel (g := 5) h.tail.tail (by kernel_rfl) (by kernel_rfl)
  obtain ⟨a3, s3, c3, d3, t3, b3⟩ := sentinel (g := 3) h.tail.tail.tail (by kernel_rfl) (by kernel_rfl)
  obtain ⟨a4, s4, c4, d4, t4, b4⟩ := sentinel (g := 4) h.tail.tail.tail.tail (by kernel_rfl) (by kernel_rfl)
  obtain ⟨a1, s1, c1, d1, t1, b1⟩ := sentinel (g := 1) h.tail.tail.tail.tail.tail.tail.tail (by kernel_rfl) (by kernel_rfl)
  refine ⟨a0, a1, a3, a4, a5, a6, { g0 := c0, g1 := c1, g3 := c3, g4 := c4, g5 := c5, g6 := c6, b0 := b0, b1 := b1, b3 := b3, b4 := b4, b5 := b5, b6 := b6, l0 := World.block_lt_of_cell? W a0 d0, l1 := World.block_lt_of_cell? W a1 d1, l3 := World.block_lt_of_cell? W a3 d3, l4 := World.block_lt_of_cell? W a4 d4, l5 := World.block_lt_of_cell? W a5 d5, l6 := World.block_lt_of_cell? W a6 d6, lg := World.block_lt_of_cell? W _ c6, n0 := ne_of_text d6 d0 t6 t0 (by decide), n1 := ne_of_text d6 d1 t6 t1 (by decide), n3 := ne_of_text d6 d3 t6 t3 (by decide), n4 := ne_of_text d6 d4 t6 t4 (by decide), n5 := ne_of_text d6 d5 t6 t5 (by decide) }⟩
end Go.Proofs.YtbgejedfdhnfpaaDoor
