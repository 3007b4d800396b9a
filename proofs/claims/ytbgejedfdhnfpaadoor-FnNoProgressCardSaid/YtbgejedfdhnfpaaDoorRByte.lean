/-
  The contracts of (*bufio.Reader).ReadByte with an empty buffer: io.ErrNoProgress behind a hundred pieces of no bytes; else the first byte of the data.
-/
import Derived.Test.YtbgejedfdhnfpaaDoorFill2
namespace Go.Proofs.YtbgejedfdhnfpaaDoor
open Go.RowKit

set_option maxHeartbeats 1600000 in
set_option maxRecDepth 100000 in
theorem byte_np (R S Bf m np : Nat) (lb lr : Int) (zs : List Value) (e : Value) (a6 : Addr) (w : World) (hR : Blk w R 53 (rdr (.slice (some ⟨Bf, 0, none⟩) m m) (rdV S) 0 0 .nilIface lb lr)) (hS : Src w S (np + 100) zs e)
    (hSR : S < R) (h6 : w.cell? ⟨6, 0, none⟩ = some (ev a6)) (h6S : 6 < S) (hm : 0 < m) (hm' : m ≤ 4096) :
    Calls Tryd.prog 17 #[.pointer (some ⟨R, 0, none⟩)] w fun r w' => r = .returned (.tuple #[.int .u8 0, ev a6]) ∧ Blk w' R 53 (rdr (.slice (some ⟨Bf, 0, none⟩) m m) (rdV S) 0 0 .nilIface lb (-1)) ∧ Src w' S np zs e ∧ Kept [S, R] w w' := by
  have f6 := hR.frozen 6
  have c6 : w.cell? ⟨R, 6, none⟩ = some (.int .i64 lr) := hR.cell 6
  have hR1 : Blk (w.setCell ⟨R, 6, none⟩ (.int .i64 (-1))) R 53 (rdr (.slice (some ⟨Bf, 0, none⟩) m m) (rdV S) 0 0 .nilIface lb (-1)) := hR.set_ 6 _
  have hK1 : Kept [S, R] w (w.setCell ⟨R, 6, none⟩ (.int .i64 (-1))) := (Kept.refl _ _).setCell (by simp) _
  have hS1 := hS.kept (D := [R]) ((Kept.refl _ w).setCell (p := ⟨R, 6, none⟩) (by simp) (.int .i64 (-1))) (by simp; omega)
  have h61 : (w.setCell ⟨R, 6, none⟩ (.int .i64 (-1))).cell? ⟨6, 0, none⟩ = some (ev a6) := (hK1.cell (p := ⟨6, 0, none⟩) (by show 6 < _; have := hS.lt; omega) (by simp; omega)).trans h6
  have HR1 := Lib.hid hR1
  have HS1 := Lib.hid hS1
  have HK1 := Lib.hid hK1
  have H61 := Lib.hid h61
  clear hR hS h6 hR1 hS1 hK1 h61
  go_enter Tryd.func17, Tryd.ntmps17
  go_wp2
  go_loopg [] 2 (fun k wr => Hid ((k = 2 ∧ Blk wr R 53 (rdr (.slice (some ⟨Bf, 0, none⟩) m m) (rdV S) 0 0 .nilIface lb (-1)) ∧ Src wr S (np + 100) zs e ∧ wr.cell? ⟨6, 0, none⟩ = some (ev a6)) ∨ (k = 1 ∧ Blk wr R 53 (rdr (.slice (some ⟨Bf, 0, none⟩) m m) (rdV S) 0 0 (ev a6) lb (-1)) ∧ Src wr S np zs e)) ∧ Hid (Kept [S, R] w wr))
  case atStart => exact ⟨Or.inl ⟨rfl, HR1.out, HS1.out, H61.out⟩, HK1.out⟩
  case round =>
    obtain ⟨h, hK⟩ := hrel
    rcases h.out with ⟨rfl, hRr, hSr, h6r⟩ | ⟨rfl, hRr, hSr⟩
    · have c2 : wr.cell? ⟨R, 2, none⟩ = some (.int .i64 0) := hRr.cell 2
      have c3 : wr.cell? ⟨R, 3, none⟩ = some (.int .i64 0) := hRr.cell 3
      have c4 : wr.cell? ⟨R, 4, none⟩ = some .nilIface := hRr.cell 4
      have HRr := Lib.hid hRr
      have HSr := Lib.hid hSr
      have H6r := Lib.hid h6r
      clear h hRr hSr h6r
      go_wp2_with fail
      go_quiet (fail)
      go_wp2_with (go_at_call 28; refine (fill_np R S Bf m np lb (-1) zs e a6 _ (HRr.out.drewN _) (HSr.out.drewN _) hSR H6r.out h6S hm hm').mono ?_; rintro r w1 ⟨rfl, hR2, hS2, hK2⟩)
      go_roundg 1
      case measure => omega
      case rel => exact ⟨Or.inr ⟨rfl, hR2, hS2⟩, (hK.out.drewN _).trans hK2⟩
    · have c2 : wr.cell? ⟨R, 2, none⟩ = some (.int .i64 0) := hRr.cell 2
      have c3 : wr.cell? ⟨R, 3, none⟩ = some (.int .i64 0) := hRr.cell 3
      have c4 : wr.cell? ⟨R, 4, none⟩ = some (ev a6) := hRr.cell 4
      have HRr := Lib.hid hRr
      have HSr := Lib.hid hSr
      clear h hRr hSr
      go_wp2_with fail
      go_quiet (fail)
      go_wp2_with (go_at_call 27; refine (readErr_any R _ _ (ev a6) trivial 0 0 lb (-1) _ (HRr.out.drewN _)).mono ?_; rintro r w1 ⟨rfl, hR2, hK2⟩)
      go_ret2
      exact ⟨rfl, hR2, (HSr.out.drewN _).kept hK2 (by simp; omega), (hK.out.drewN _).trans (hK2.mono (by simp))⟩

set_option maxHeartbeats 1600000 in
set_option maxRecDepth 100000 in
theorem byte_some (R S Bf m np : Nat) (lb lr z : Int) (rest : List Value) (e : Value) (cur : Array Value) (w : World) (hR : Blk w R 53 (rdr (.slice (some ⟨Bf, 0, none⟩) m m) (rdV S) 0 0 .nilIface lb lr)) (hS : Src w S np (.int .u8 z :: rest) e)
    (hnp : np < 100) (hB : Blk w Bf 5 cur) (hcm : cur.size = m) (hSR : S < R) (hRB : R < Bf) (hm : 0 < m) (hm' : m ≤ 4096) :
    Calls Tryd.prog 17 #[.pointer (some ⟨R, 0, none⟩)] w fun r w' => r = .returned (.tuple #[.int .u8 z, .nilIface]) ∧ (∃ j l, 0 < j ∧ j ≤ m ∧ Blk w' R 53 (rdr (.slice (some ⟨Bf, 0, none⟩) m m) (rdV S) 1 (j : Nat) .nilIface l (-1)) ∧ (∃ L P', Blk w' S 46 (srcC L P' e (j : Nat)))) ∧ Kept [S, R, Bf] w w' := by
  have f6 := hR.frozen 6
  have c6 : w.cell? ⟨R, 6, none⟩ = some (.int .i64 lr) := hR.cell 6
  have hR1 : Blk (w.setCell ⟨R, 6, none⟩ (.int .i64 (-1))) R 53 (rdr (.slice (some ⟨Bf, 0, none⟩) m m) (rdV S) 0 0 .nilIface lb (-1)) := hR.set_ 6 _
  have hK1 : Kept [S, R, Bf] w (w.setCell ⟨R, 6, none⟩ (.int .i64 (-1))) := (Kept.refl _ _).setCell (by simp) _
  have hS1 := hS.kept (D := [R]) ((Kept.refl _ w).setCell (p := ⟨R, 6, none⟩) (by simp) (.int .i64 (-1))) (by simp; omega)
  have hB1 := hB.far (p := ⟨R, 6, none⟩) (by show Bf ≠ R; omega) (.int .i64 (-1))
  obtain ⟨j, hj⟩ : ∃ j, j = min ((.int .u8 z :: rest : List Value)).length m := ⟨_, rfl⟩
  have hjm : j ≤ m := by omega
  have hj0 : 0 < j := by simp at hj; omega
  have HJ := Lib.hid hj
  have HR1 := Lib.hid hR1
  have HS1 := Lib.hid hS1
  have HB1 := Lib.hid hB1
  have HK1 := Lib.hid hK1
  have HC := Lib.hid hcm
  clear hR hS hB hR1 hS1 hB1 hK1 hcm hj
  go_enter Tryd.func17, Tryd.ntmps17
  go_wp2
  go_loopg [] 2 (fun k wr => Hid ((k = 2 ∧ Blk wr R 53 (rdr (.slice (some ⟨Bf, 0, none⟩) m m) (rdV S) 0 0 .nilIface lb (-1)) ∧ Src wr S np (.int .u8 z :: rest) e ∧ Blk wr Bf 5 cur) ∨ (k = 1 ∧ Blk wr R 53 (rdr (.slice (some ⟨Bf, 0, none⟩) m m) (rdV S) 0 j .nilIface lb (-1)) ∧ (∃ L P', Blk wr S 46 (srcC L P' e j)) ∧ wr.cell? ⟨Bf, 0, none⟩ = some (.int .u8 z))) ∧ Hid (Kept [S, R, Bf] w wr))
  case atStart => exact ⟨Or.inl ⟨rfl, HR1.out, HS1.out, HB1.out⟩, HK1.out⟩
  case round =>
    obtain ⟨h, hK⟩ := hrel
    rcases h.out with ⟨rfl, hRr, hSr, hBr⟩ | ⟨rfl, hRr, hSr, cB⟩
    · have c2 : wr.cell? ⟨R, 2, none⟩ = some (.int .i64 0) := hRr.cell 2
      have c3 : wr.cell? ⟨R, 3, none⟩ = some (.int .i64 0) := hRr.cell 3
      have c4 : wr.cell? ⟨R, 4, none⟩ = some .nilIface := hRr.cell 4
      have HRr := Lib.hid hRr
      have HSr := Lib.hid hSr
      have HBr := Lib.hid hBr
      clear h hRr hSr hBr
      go_wp2_with fail
      go_quiet (fail)
      go_wp2_with (go_at_call 28; refine (fill_some R S Bf m np j lb (-1) _ e cur _ (HRr.out.drewN _) (HSr.out.drewN _) hnp (HBr.out.drewN _) HC.out hSR hRB hm hm' HJ.out).mono ?_; rintro r w1 ⟨rfl, hR2, hS2, hB2, hK2⟩)
      go_roundg 1
      case measure => omega
      case rel =>
        refine ⟨Or.inr ⟨rfl, hR2, hS2, ?_⟩, (hK.out.drewN _).trans hK2⟩
        have := hB2.cell 0
        obtain ⟨q, rfl⟩ : ∃ q, m = q + 1 := ⟨m - 1, by omega⟩
        simpa using this
    · have c0 : wr.cell? ⟨R, 0, none⟩ = some (.slice (some ⟨Bf, 0, none⟩) m m) := hRr.cell 0
      have c2 : wr.cell? ⟨R, 2, none⟩ = some (.int .i64 0) := hRr.cell 2
      have c3 : wr.cell? ⟨R, 3, none⟩ = some (.int .i64 j) := hRr.cell 3
      have c5 : wr.cell? ⟨R, 5, none⟩ = some (.int .i64 lb) := hRr.cell 5
      have f2 := hRr.frozen 2
      have f5 := hRr.frozen 5
      have HRr := Lib.hid hRr
      have HSr := Lib.hid hSr
      clear h hRr hSr
      have hj0' : ((0 : Int) == (j : Int)) = false := by simp; omega
      go_wp2_with fail
      go_quiet (fail)
      go_wp2_with fail
      go_quiet (fail)
      go_wp2
      go_ret2
      obtain ⟨L, P', hL⟩ := HSr.out
      exact ⟨rfl, ⟨j, _, hj0, hjm, ((HRr.out).set_ 2 _).set_ 5 _, L, P', (hL.far (p := ⟨R, 2, none⟩) (by show S ≠ R; omega) _).far (p := ⟨R, 5, none⟩) (by show S ≠ R; omega) _⟩, ((hK.out.drewN _).setCell (by simp) _).setCell (by simp) _⟩
end Go.Proofs.YtbgejedfdhnfpaaDoor
