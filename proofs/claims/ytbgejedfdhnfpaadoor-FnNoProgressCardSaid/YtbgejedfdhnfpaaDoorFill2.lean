/-
  The contract of (*bufio.Reader).fill over a source with fewer than a hundred pieces of no bytes left: it leaves the first bytes of the data in the buffer, and no error.
-/
import Derived.Test.YtbgejedfdhnfpaaDoorFill
namespace Go.Proofs.YtbgejedfdhnfpaaDoor
open Go.RowKit

set_option maxHeartbeats 1600000 in
set_option maxRecDepth 100000 in
theorem fill_some (R S Bf m np kk : Nat) (lb lr : Int) (zs : List Value) (e : Value) (cur : Array Value) (w : World) (hR : Blk w R 53 (rdr (.slice (some ⟨Bf, 0, none⟩) m m) (rdV S) 0 0 .nilIface lb lr)) (hS : Src w S np zs e)
    (hnp : np < 100) (hB : Blk w Bf 5 cur) (hcm : cur.size = m) (hSR : S < R) (hRB : R < Bf) (hm : 0 < m) (hm' : m ≤ 4096) (hkk : kk = min zs.length m) :
    Calls Tryd.prog 28 #[.pointer (some ⟨R, 0, none⟩)] w fun r w' => r = .returned (.tuple #[]) ∧ Blk w' R 53 (rdr (.slice (some ⟨Bf, 0, none⟩) m m) (rdV S) 0 kk .nilIface lb lr) ∧
      (∃ L P', Blk w' S 46 (srcC L P' e kk)) ∧ Blk w' Bf 5 (zs.take m ++ cur.toList.drop kk).toArray ∧ Kept [S, R, Bf] w w' := by
  have c0 : w.cell? ⟨R, 0, none⟩ = some (.slice (some ⟨Bf, 0, none⟩) m m) := hR.cell 0
  have c2 : w.cell? ⟨R, 2, none⟩ = some (.int .i64 0) := hR.cell 2
  have c3 : w.cell? ⟨R, 3, none⟩ = some (.int .i64 0) := hR.cell 3
  have HR := Lib.hid hR
  have HS := Lib.hid hS
  have HB := Lib.hid hB
  have HC := Lib.hid hcm
  have HK := Lib.hid hkk
  have hmz : ¬ m = 0 := by omega
  have hkm : kk ≤ m := by omega
  have hk1 : 0 < kk := by
    obtain ⟨_, _, _, _, _, _, _, _, _, _, _, _, _, h, _⟩ := hS
    omega
  clear hR hS hB hcm hkk
  go_enter Tryd.func28, Tryd.ntmps28
  go_wp2
  go_quiet (fail)
  go_wp2
  go_loopg [2] 100 (fun k i wr => k ≤ 100 ∧ i = .int .i64 (k : Nat) ∧ Hid (Blk wr R 53 (rdr (.slice (some ⟨Bf, 0, none⟩) m m) (rdV S) 0 0 .nilIface lb lr)) ∧ Hid (∃ q, q + 100 = np + k ∧ Src wr S q zs e) ∧ Hid (Blk wr Bf 5 cur) ∧ Hid (Kept [S, R, Bf] w wr))
  case atStart => exact ⟨by omega, rfl, HR.out.drewN _, ⟨np, rfl, HS.out.drewN _⟩, HB.out.drewN _, (Kept.refl _ _).drewN _⟩
  case round =>
    obtain ⟨hk, rfl, hRr, hSr, hBr, hKr⟩ := hrel
    have c0 : wr.cell? ⟨R, 0, none⟩ = some (.slice (some ⟨Bf, 0, none⟩) m m) := hRr.out.cell 0
    have c1 : wr.cell? ⟨R, 1, none⟩ = some (rdV S) := hRr.out.cell 1
    have c3 : wr.cell? ⟨R, 3, none⟩ = some (.int .i64 0) := hRr.out.cell 3
    have hmr := method_read
    obtain ⟨q, hq, hSq⟩ := hSr.out
    have hk0 : 0 < gk := by omega
    have HQ := Lib.hid hq
    clear hSr hq
    by_cases hq0 : 0 < q
    · have hSq : Hid (Src wr S (q - 1 + 1) zs e) := by
        rw [show q = q - 1 + 1 by omega] at hSq
        exact hSq
      go_wp2_with fail
      go_cut [3, 4] (fun n er wx => n = .int .i64 0 ∧ er = .nilIface ∧ Hid (Src wx S (q - 1) zs e) ∧ Hid (Kept [S] wr wx))
      case first =>
        go_region_with (go_at_call 48; refine (read_zero S (q - 1) zs e Bf 0 m m _ (hSq.out.drewN 1) hm (Nat.le_refl _) (by omega)).mono ?_; rintro r w1 ⟨rfl, hS1, hK1⟩)
        all_goals simp only [Act.put, List.setIfInBounds_toArray, List.set_cons_succ, List.set_cons_zero, List.getElem_toArray, List.getElem_cons_succ, List.getElem_cons_zero]
        all_goals go_wp2_with fail
        all_goals go_meet
        all_goals exact ⟨rfl, rfl, hS1, ⟨hK1.os, hK1.tape, hK1.output, hK1.size, hK1.block⟩⟩
      case rest =>
        obtain ⟨rfl, rfl, hS1, hK1⟩ := hcut
        have hR1 := hRr.out.kept hK1.out (by simp; omega)
        have d3 : wc.cell? ⟨R, 3, none⟩ = some (.int .i64 0) := hR1.cell 3
        have f3 := hR1.frozen 3
        have HR1 := Lib.hid hR1
        clear hR1 c0 c1 c3
        go_wp2
        go_roundg (gk - 1)
        case measure => omega
        case rel =>
          have hK2 : Kept [R] wc (wc.setCell ⟨R, 3, none⟩ (.int .i64 0)) := (Kept.refl _ _).setCell (by simp) _
          have hq := HQ.out
          exact ⟨by omega, by rw [show ((gk - 1 : Nat) : Int) = (gk : Int) - 1 by omega], HR1.out.set_ 3 _, ⟨q - 1, by omega, hS1.out.kept hK2 (by simp; omega)⟩, (hBr.out.kept hK1.out (by simp; omega)).kept hK2 (by simp; omega), (hKr.out.trans (hK1.out.mono (by simp))).trans (hK2.mono (by simp))⟩
    · have hSq : Hid (Src wr S 0 zs e) := by
        rw [show q = 0 by omega] at hSq
        exact hSq
      go_wp2_with fail
      go_cut [3, 4] (fun n er wx => n = .int .i64 (kk : Nat) ∧ er = .nilIface ∧ Hid (∃ L P', Blk wx S 46 (srcC L P' e kk)) ∧ Hid (Blk wx Bf 5 (zs.take m ++ cur.toList.drop kk).toArray) ∧ Hid (Kept [S, Bf] wr wx))
      case first =>
        go_region_with (go_at_call 48; refine (read_all S Bf m kk zs e cur _ (hSq.out.drewN 1) (hBr.out.drewN 1) HC.out (by omega) HK.out hm hm').mono ?_; rintro r w1 ⟨rfl, hS1, hB1, hK1⟩)
        all_goals simp only [Act.put, List.setIfInBounds_toArray, List.set_cons_succ, List.set_cons_zero, List.getElem_toArray, List.getElem_cons_succ, List.getElem_cons_zero]
        all_goals go_wp2_with fail
        all_goals go_meet
        all_goals exact ⟨rfl, rfl, hS1, hB1, ⟨hK1.os, hK1.tape, hK1.output, hK1.size, hK1.block⟩⟩
      case rest =>
        obtain ⟨rfl, rfl, hS1, hB1, hK1⟩ := hcut
        have hR1 := hRr.out.kept hK1.out (by simp; omega)
        have d3 : wc.cell? ⟨R, 3, none⟩ = some (.int .i64 0) := hR1.cell 3
        have f3 := hR1.frozen 3
        have HR1 := Lib.hid hR1
        clear hR1 c0 c1 c3
        go_wp2
        obtain ⟨L, P', hL⟩ := hS1.out
        refine bodyPost_ret (v := .tuple #[]) (by simp [results, Tryd.results28]) rfl ?_
        exact ⟨rfl, HR1.out.set_ 3 _, ⟨L, P', hL.far (p := ⟨R, 3, none⟩) (by show S ≠ R; omega) _⟩, hB1.out.far (p := ⟨R, 3, none⟩) (by show Bf ≠ R; omega) _, (hKr.out.trans (hK1.out.mono (by simp))).setCell (by simp) _⟩
end Go.Proofs.YtbgejedfdhnfpaaDoor
