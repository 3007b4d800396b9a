/-
  The contract of impl.open at a source that is neither broken nor glued.
-/
import Derived.Test.YtbgejedfdhnfpaaDoorSrc
import Derived.Test.YtbgejedfdhnfpaaDoorGrow
import Derived.Deep.DeepCutAuto
import Derived.Deep.RegionLaw
import Derived.Deep.RegionHeld3
namespace Go.Proofs.YtbgejedfdhnfpaaDoor
open Go.RowKit

theorem Tryd.info5' : (Tryd.prog.info? 5).map (fun i => (i.zero, i.size, i.bytes)) = some (some (.int .u8 0), 1, 1) := by kernel_rfl
theorem Tryd.info3' : (Tryd.prog.info? 3).map (fun i => (i.zero, i.size, i.bytes)) = some (some (.int .i64 0), 1, 8) := by kernel_rfl

theorem Reads.alloc {w : World} {B size n : Nat} {A : Option Addr} {xs : List Value} (h : Reads w B size A n xs) (hB : B ≤ w.heap.size) (o : Obj) : Reads (w.alloc o) B size A n xs := h.keep fun p hp => World.cell?_alloc_lt w o p (by omega)

/-- What open leaves. -/
def Opened (B n np : Nat) (xs ys : List Value) (e : Value) (w' : World) (S : Nat) : Prop :=
  ∃ LA lc PA pc, Blk w' S 46 (srcC (.slice LA n lc) (.slice PA np pc) e 0) ∧ (∃ g, LA = some ⟨g, 0, none⟩) ∧ n ≤ lc ∧ lc ≤ maxLen ∧ np ≤ pc ∧ pc ≤ maxLen ∧ Reads w' S 1 LA n xs ∧ Reads w' S 1 PA np ys ∧ B ≤ S

set_option maxHeartbeats 1600000 in
set_option maxRecDepth 100000 in
theorem open_all (n np c1 c2 : Nat) (A1 A2 : Option Addr) (xs ys : List Value) (a0 : Addr) (w : World) (h1 : Reads w w.heap.size 1 A1 n xs) (h2 : Reads w w.heap.size 1 A2 np ys) (g0 : w.cell? ⟨0, 0, none⟩ = some (ev a0)) (hn0 : 0 < n) (hn : n ≤ 140737488351232) (hnp : np ≤ 2000) :
    Calls Tryd.prog 8 #[.agg #[.slice A1 n c1, .slice A2 np c2, .bool false, .bool false]] w fun r w' => ∃ S, r = .returned (.pointer (some ⟨S, 0, none⟩)) ∧ Opened w.heap.size n np xs ys (ev a0) w' S ∧ Below w.heap.size w w' := by
  obtain ⟨i5, hi5, y0, y1, y2⟩ := info_parts Tryd.info5'
  obtain ⟨i3, hi3, x0, x1, x2⟩ := info_parts Tryd.info3'
  have hgl : 0 < w.heap.size := World.block_lt_of_cell? w _ g0
  have hne := World.new_ne w _ g0
  have R1 : Hid (∀ W, Below w.heap.size w W → Reads W w.heap.size 1 A1 n xs) := fun W hb => h1.below hb
  have RG : Hid (∀ W, Below w.heap.size w W → W.cell? ⟨0, 0, none⟩ = some (ev a0)) := fun W hb => (hb.cell (p := ⟨0, 0, none⟩) hgl).trans g0
  have R2 : Hid (∀ W, Below w.heap.size w W → Reads W w.heap.size 1 A2 np ys) := fun W hb => h2.below hb
  have hm1 : n ≤ maxLen := by unfold maxLen; omega
  have hm2 : np ≤ maxLen := by unfold maxLen; omega
  clear h1 h2
  go_enter Tryd.func8, Tryd.ntmps8
  go_wp2_with fail
  go_cut [3] (fun s3 wx => ∃ S, s3 = .pointer (some ⟨S, 0, none⟩) ∧ Hid (Opened w.heap.size n np xs ys (ev a0) wx S) ∧ Hid (Below w.heap.size w wx) ∧ Hid (wx.cell? ⟨w.heap.size, 2, none⟩ = some (.bool false)))
  case first =>
    go_region_held3 (fun w' => w'.cell? ⟨w.heap.size, 0, none⟩ = some (.slice A1 n c1) ∧ w'.cell? ⟨w.heap.size, 1, none⟩ = some (.slice A2 np c2) ∧ w'.cell? ⟨w.heap.size, 3, none⟩ = some (.bool false) ∧ w'.cell? ⟨0, 0, none⟩ = some (ev a0))
      (first
        | (go_keep; done)
        | ((try go_split_ands); refine ⟨?_, ?_, ?_, ?_⟩ <;> first | (go_keep; done) | (refine RG.out _ ?_; repeat (first | exact Below.refl _ _ | exact hb2.out | exact hb1.out | refine Below.drew ?_ | refine Below.alloc ?_ (by first | omega | (simp; done) | (simp; omega)) _)) | (exact (hG1.out.cell_far ⟨w.heap.size, 0, none⟩ (by first | omega | (simp; done) | (simp; omega)) (by simp)).trans (by assumption)) | (exact (hG2.out.cell_far ⟨w.heap.size, 0, none⟩ (by first | omega | (simp; done) | (simp; omega)) (by simp)).trans (by assumption)) | (exact (World.cell?_alloc_lt _ _ ⟨w.heap.size, 0, none⟩ (by first | omega | (simp; done) | (simp; omega))).trans (by assumption)) | (exact (hG1.out.cell_far ⟨w.heap.size, 1, none⟩ (by first | omega | (simp; done) | (simp; omega)) (by simp)).trans (by assumption)) | (exact (hG2.out.cell_far ⟨w.heap.size, 1, none⟩ (by first | omega | (simp; done) | (simp; omega)) (by simp)).trans (by assumption)) | (exact (World.cell?_alloc_lt _ _ ⟨w.heap.size, 1, none⟩ (by first | omega | (simp; done) | (simp; omega))).trans (by assumption)) | (exact (hG1.out.cell_far ⟨w.heap.size, 3, none⟩ (by first | omega | (simp; done) | (simp; omega)) (by simp)).trans (by assumption)) | (exact (hG2.out.cell_far ⟨w.heap.size, 3, none⟩ (by first | omega | (simp; done) | (simp; omega)) (by simp)).trans (by assumption)) | (exact (World.cell?_alloc_lt _ _ ⟨w.heap.size, 3, none⟩ (by first | omega | (simp; done) | (simp; omega))).trans (by assumption))))
      (first
        | (refine step_append_empty rfl (.tmp 4) (.tmp 6) 22 rfl 5 i5 _ 1 Tryd.underlying22 hi5 y0 y1 y2 _ rfl w.heap.size A1 n c1 xs rfl (R1.out _ (by repeat (first | exact Below.refl _ _ | refine Below.drew ?_ | refine Below.alloc ?_ (by first | omega | (simp; done) | (simp; omega)) _))) hm1 (by omega) ?_; intro LA lc w1 hL hG1; have hb1 : Hid (Below w.heap.size w w1) := Below.grown (by repeat (first | exact Below.refl _ _ | refine Below.drew ?_ | refine Below.alloc ?_ (by first | omega | (simp; done) | (simp; omega)) _)) hG1.out (by first | omega | (simp; done) | (simp; omega)) (by simp); have hbA : Hid (Below (w.heap.size + 1) (w.alloc (.cells #[.slice A1 n c1, .slice A2 np c2, .bool false, .bool false] 27)) w1) := Below.grown (by repeat (first | exact Below.refl _ _ | refine Below.drew ?_ | refine Below.alloc ?_ (by first | omega | (simp; done) | (simp; omega)) _)) hG1.out (by first | omega | (simp; done) | (simp; omega)) (by simp); have hz1 : w.heap.size + 1 ≤ w1.heap.size := (by have := hbA.out.size; simp at this; omega))
        | (refine step_append_empty rfl (.tmp 8) (.tmp 10) 25 rfl 3 i3 _ 8 Tryd.underlying25 hi3 x0 x1 x2 _ rfl w.heap.size A2 np c2 ys rfl (R2.out _ (by repeat (first | exact Below.refl _ _ | exact hb1.out | refine Below.drew ?_ | refine Below.alloc ?_ (by first | omega | (simp; done) | (simp; omega)) _))) hm2 (by omega) ?_; intro PA pc w2 hP hG2; have hb12 : Hid (Below w1.heap.size w1 w2) := Below.grown (by repeat (first | exact Below.refl _ _ | refine Below.drew ?_ | refine Below.alloc ?_ (by first | omega | (simp; done) | (simp; omega)) _)) hG2.out (by first | omega | (simp; done) | (simp; omega)) (by simp); have hb2 : Hid (Below w.heap.size w w2) := hb1.out.trans (hb12.out.mono hb1.out.size)))
    all_goals (try go_wp2_with fail)
    all_goals go_meet
    all_goals have m2 : w2.cell? ⟨w.heap.size, 2, none⟩ = some (.bool false) := (hb12.out.cell (p := ⟨w.heap.size, 2, none⟩) hz1).trans ((hbA.out.cell (p := ⟨w.heap.size, 2, none⟩) (by simp)).trans ((Blk.new w 27 #[.slice A1 n c1, .slice A2 np c2, .bool false, .bool false]).cell 2))
    all_goals exact ⟨w2.heap.size, rfl, ⟨LA, lc, PA, pc, Blk.new w2 46 _, hL.out.1 hn0, hL.out.2.1, hL.out.2.2.1, hP.out.2.1, hP.out.2.2.1, ((hL.out.2.2.2.below hb12.out).more hb12.out.size).alloc (Nat.le_refl _) _, hP.out.2.2.2.alloc (Nat.le_refl _) _, Nat.le_trans hb1.out.size hb12.out.size⟩, (hb1.out.trans (hb12.out.mono hb1.out.size)).alloc (Nat.le_trans hb1.out.size hb12.out.size) _, (World.cell?_alloc_lt w2 _ ⟨w.heap.size, 2, none⟩ (Nat.lt_of_lt_of_le hz1 hb12.out.size)).trans m2⟩
  case rest =>
    obtain ⟨S, rfl, hO, hb, hc⟩ := hcut
    have hc2 := hc.out
    clear hc g0
    go_wp2
    go_ret
    exact ⟨S, rfl, hO.out, hb.out⟩
end Go.Proofs.YtbgejedfdhnfpaaDoor
