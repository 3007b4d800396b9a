/-
  The contracts of impl.called at a call of ReadByte.
-/
import Derived.Test.YtbgejedfdhnfpaaDoorRByte
namespace Go.Proofs.YtbgejedfdhnfpaaDoor
open Go.RowKit

theorem size_setCell (w : World) (a : Addr) (v : Value) : (w.setCell a v).heap.size = w.heap.size := by simp [World.setCell]

/-- The call of ReadByte. -/
abbrev callV : Value := .agg #[.int .i64 1, .int .i64 0, .int .u8 0]

set_option maxHeartbeats 1600000 in
set_option maxRecDepth 100000 in
theorem called_np {B : Nat} (R S Bf m np : Nat) (lb lr : Int) (zs : List Value) (e : Value) (a0 a1 a3 a4 a5 a6 : Addr) (w : World) (hR : Blk w R 53 (rdr (.slice (some ⟨Bf, 0, none⟩) m m) (rdV S) 0 0 .nilIface lb lr)) (hS : Src w S (np + 100) zs e)
    (hSR : S < R) (E : Errs B w a0 a1 a3 a4 a5 a6) (hBS : B ≤ S) (hm : 0 < m) (hm' : m ≤ 4096) :
    Calls Tryd.prog 12 #[.pointer (some ⟨R, 0, none⟩), callV] w fun r w' => r = .returned (.agg #[.slice none 0 0, .int .i64 0, .bool false, .int .i64 6, .int .i64 0, .int .i64 0]) ∧ Blk w' R 53 (rdr (.slice (some ⟨Bf, 0, none⟩) m m) (rdV S) 0 0 .nilIface lb (-1)) ∧ Src w' S np zs e ∧ Kept [S, R] w w' := by
  have hsz := hS.lt
  have HR := Lib.hid hR
  have HS := Lib.hid hS
  have HE := Lib.hid E
  clear hR hS E
  go_enter Tryd.func12, Tryd.ntmps12
  go_wp2_with fail
  refine (byte_np R S Bf m np lb lr zs e a6 _ ((HR.out.alloc _).alloc _) (HS.out.kept (D := []) (((Kept.refl _ _).alloc _).alloc _) (by simp)) hSR ?_ (by have := HE.out.lg; omega) hm hm').mono ?_
  · exact ((HE.out.below (((Below.refl _ _).alloc (by omega) _).alloc (by simp; omega) _))).g6
  rintro r w1 ⟨rfl, hR1, hS1, hK1⟩
  have hK0 : Kept [S, R] w w1 := (((Kept.refl _ _).alloc _).alloc _).trans hK1
  have E1 := HE.out.below (hK0.below (B := B) (by omega) (by simp; omega))
  have hO : Blk w1 (w.heap.size + 1) 34 #[.slice none 0 0, .int .i64 0, .bool false, .int .i64 0, .int .i64 0, .int .i64 0] := by
    refine Blk.kept (D := [S, R]) ?_ hK1 (by simp; have := HR.out.lt; omega)
    have := Blk.new (w.alloc (.cells #[.int .i64 1, .int .i64 0, .int .u8 0] 32)) 34 #[.slice none 0 0, .int .i64 0, .bool false, .int .i64 0, .int .i64 0, .int .i64 0]
    simpa using this
  have hsz1 := hO.lt
  have HR1 := Lib.hid hR1
  have HS1 := Lib.hid hS1
  have HK1 := Lib.hid hK1
  have HK0 := Lib.hid hK0
  have HO := Lib.hid hO
  clear hR1 hS1 hK1 hK0 hO
  go_wp2_with fail
  refine (code_np a0 a1 a3 a4 a5 a6 _ E1).mono ?_
  rintro r w2 ⟨rfl, hK2⟩
  have hO2 := HO.out.kept hK2 (by simp)
  have o0 := hO2.cell 0
  have o1 := hO2.cell 1
  have o2 := hO2.cell 2
  have o3 := hO2.cell 3
  have o4 := hO2.cell 4
  have o5 := hO2.cell 5
  have p0 := hO2.frozen 0
  have p1 := hO2.frozen 1
  have p2 := hO2.frozen 2
  have p3 := hO2.frozen 3
  have p4 := hO2.frozen 4
  have p5 := hO2.frozen 5
  have HK2 := Lib.hid hK2
  have HO2 := Lib.hid hO2
  simp at o0 o1 o2 o3 o4 o5
  clear hK2 hO2 E1
  go_wp2_with fail
  have b0 := HO2.out.set_ 0 (.slice none 0 0)
  have b1 := b0.set_ 1 (.int .i64 0)
  have b2 := b1.set_ 2 (.bool false)
  have b3 := b2.set_ 3 (.int .i64 6)
  have b4 := b3.set_ 4 (.int .i64 0)
  have b5 := b4.set_ 5 (.int .i64 0)
  have s0 := b0.cell 0
  have s1 := b1.cell 1
  have s2 := b2.cell 2
  have s3 := b3.cell 3
  have s4 := b4.cell 4
  have s5 := b5.cell 5
  simp at s0 s1 s2 s3 s4 s5
  refine bodyPost_ret (v := .agg #[.slice none 0 0, .int .i64 0, .bool false, .int .i64 6, .int .i64 0, .int .i64 0]) (by simp [results, Tryd.results12, go_sem, s0, s1, s2, s3, s4, s5]) rfl ?_
  have hK3 : Kept [w.heap.size + 1] w1 _ := ((((((HK2.out.mono (E := [w.heap.size + 1]) (by simp)).setCell (p := ⟨w.heap.size + 1, 0, none⟩) (by simp) (.slice none 0 0)).setCell (p := ⟨w.heap.size + 1, 1, none⟩) (by simp) (.int .i64 0)).setCell (p := ⟨w.heap.size + 1, 2, none⟩) (by simp) (.bool false)).setCell (p := ⟨w.heap.size + 1, 3, none⟩) (by simp) (.int .i64 6)).setCell (p := ⟨w.heap.size + 1, 4, none⟩) (by simp) (.int .i64 0)).setCell (p := ⟨w.heap.size + 1, 5, none⟩) (by simp) (.int .i64 0)
  exact ⟨rfl, HR1.out.kept hK3 (by simp; have := HR.out.lt; omega), HS1.out.kept hK3 (by simp; omega), HK0.out.more hK3 (by simp)⟩

set_option maxHeartbeats 1600000 in
set_option maxRecDepth 100000 in
theorem called_some (R S Bf m np : Nat) (lb lr z : Int) (rest : List Value) (e : Value) (cur : Array Value) (w : World) (hR : Blk w R 53 (rdr (.slice (some ⟨Bf, 0, none⟩) m m) (rdV S) 0 0 .nilIface lb lr)) (hS : Src w S np (.int .u8 z :: rest) e)
    (hnp : np < 100) (hB : Blk w Bf 5 cur) (hcm : cur.size = m) (hSR : S < R) (hRB : R < Bf) (hm : 0 < m) (hm' : m ≤ 4096) :
    Calls Tryd.prog 12 #[.pointer (some ⟨R, 0, none⟩), callV] w fun r w' => ∃ g, r = .returned (.agg #[.slice (some ⟨g, 0, none⟩) 1 1, .int .i64 1, .bool false, .int .i64 0, .int .i64 0, .int .i64 0]) ∧ Blk w' g 5 #[.int .u8 z] ∧ w.heap.size ≤ g ∧
      (∃ j l, 0 < j ∧ j ≤ m ∧ Blk w' R 53 (rdr (.slice (some ⟨Bf, 0, none⟩) m m) (rdV S) 1 (j : Nat) .nilIface l (-1)) ∧ (∃ L P', Blk w' S 46 (srcC L P' e (j : Nat)))) ∧ Kept [S, R, Bf] w w' := by
  have hsz := hS.lt
  have hszB := hB.lt
  have HR := Lib.hid hR
  have HS := Lib.hid hS
  have HB := Lib.hid hB
  have HC := Lib.hid hcm
  clear hR hS hB hcm
  go_enter Tryd.func12, Tryd.ntmps12
  go_wp2_with fail
  refine (byte_some R S Bf m np lb lr z rest e cur _ ((HR.out.alloc _).alloc _) (HS.out.kept (D := []) (((Kept.refl _ _).alloc _).alloc _) (by simp)) hnp ((HB.out.alloc _).alloc _) HC.out hSR hRB hm hm').mono ?_
  rintro r w1 ⟨rfl, hR1, hK1⟩
  have hK0 : Kept [S, R, Bf] w w1 := (((Kept.refl _ _).alloc _).alloc _).trans hK1
  have hO : Blk w1 (w.heap.size + 1) 34 #[.slice none 0 0, .int .i64 0, .bool false, .int .i64 0, .int .i64 0, .int .i64 0] := by
    refine Blk.kept (D := [S, R, Bf]) ?_ hK1 (by simp; have := HR.out.lt; omega)
    have := Blk.new (w.alloc (.cells #[.int .i64 1, .int .i64 0, .int .u8 0] 32)) 34 #[.slice none 0 0, .int .i64 0, .bool false, .int .i64 0, .int .i64 0, .int .i64 0]
    simpa using this
  have hsz1 := hO.lt
  have o0 := hO.cell 0
  have o1 := hO.cell 1
  have o2 := hO.cell 2
  have o3 := hO.cell 3
  have o4 := hO.cell 4
  have o5 := hO.cell 5
  have p0 := hO.frozen 0
  have p1 := hO.frozen 1
  have p2 := hO.frozen 2
  have p3 := hO.frozen 3
  have p4 := hO.frozen 4
  have p5 := hO.frozen 5
  simp at o0 o1 o2 o3 o4 o5
  have HR1 := Lib.hid hR1
  have HK1 := Lib.hid hK1
  have HK0 := Lib.hid hK0
  have HO := Lib.hid hO
  clear hR1 hK1 hK0 hO
  go_wp2_with fail
  have b5 := ((((((HO.out.set_ 0 (.slice (some ⟨w1.heap.size, 0, none⟩) 1 1)).set_ 1 (.int .i64 1)).set_ 2 (.bool false)).set_ 3 (.int .i64 0)).set_ 4 (.int .i64 0)).set_ 5 (.int .i64 0)).alloc (.cells #[.int .u8 z] 5)
  have s0 := b5.cell 0
  have s1 := b5.cell 1
  have s2 := b5.cell 2
  have s3 := b5.cell 3
  have s4 := b5.cell 4
  have s5 := b5.cell 5
  simp only [List.setIfInBounds_toArray, List.set_cons_zero, List.set_cons_succ, List.getElem?_toArray, List.getElem?_cons_zero, List.getElem?_cons_succ] at s0 s1 s2 s3 s4 s5
  refine bodyPost_ret (v := .agg #[.slice (some ⟨w1.heap.size, 0, none⟩) 1 1, .int .i64 1, .bool false, .int .i64 0, .int .i64 0, .int .i64 0]) (by simp [results, Tryd.results12, go_sem, s0, s1, s2, s3, s4, s5]) rfl ?_
  have hKa : Kept [w.heap.size + 1] w1 _ := (((((((Kept.refl _ _)).setCell (p := ⟨w.heap.size + 1, 0, none⟩) (by simp) (.slice (some ⟨w1.heap.size, 0, none⟩) 1 1)).setCell (p := ⟨w.heap.size + 1, 1, none⟩) (by simp) (.int .i64 1)).setCell (p := ⟨w.heap.size + 1, 2, none⟩) (by simp) (.bool false)).setCell (p := ⟨w.heap.size + 1, 3, none⟩) (by simp) (.int .i64 0)).setCell (p := ⟨w.heap.size + 1, 4, none⟩) (by simp) (.int .i64 0)).setCell (p := ⟨w.heap.size + 1, 5, none⟩) (by simp) (.int .i64 0)
  have hK3 := hKa.alloc (.cells #[.int .u8 z] 5)
  obtain ⟨j, l, hj0, hjm, hRj, L, P', hL⟩ := HR1.out
  have hRl := HR.out.lt
  have hn := Blk.new ((((((w1.setCell ⟨w.heap.size + 1, 0, none⟩ (.slice (some ⟨w1.heap.size, 0, none⟩) 1 1)).setCell ⟨w.heap.size + 1, 1, none⟩ (.int .i64 1)).setCell ⟨w.heap.size + 1, 2, none⟩ (.bool false)).setCell ⟨w.heap.size + 1, 3, none⟩ (.int .i64 0)).setCell ⟨w.heap.size + 1, 4, none⟩ (.int .i64 0)).setCell ⟨w.heap.size + 1, 5, none⟩ (.int .i64 0)) 5 #[.int .u8 z]
  simp only [size_setCell] at hn
  exact ⟨w1.heap.size, rfl, hn, by omega, ⟨j, l, hj0, hjm, hRj.kept hK3 (by simp; omega), L, P', hL.kept hK3 (by simp; omega)⟩, HK0.out.more hK3 (by simp)⟩
end Go.Proofs.YtbgejedfdhnfpaaDoor
