/-
  The contracts of (*bufio.Reader).fill over a source that still has np pieces of no bytes: with a hundred or more of them it leaves io.ErrNoProgress, with fewer it leaves the first bytes of the data.
-/
import Derived.Test.YtbgejedfdhnfpaaDoorSrc
import Derived.Deep.LoopGhost
import Derived.Deep.DeepCutAuto
namespace Go.Proofs.YtbgejedfdhnfpaaDoor
open Go.RowKit

/-- Block S is a source of the data zs behind np pieces of no bytes, with nothing given yet. -/
def Src (w : World) (S np : Nat) (zs : List Value) (e : Value) : Prop :=
  ∃ lb lo lc PA pc, Blk w S 46 (srcC (.slice (some ⟨lb, lo, none⟩) zs.length lc) (.slice PA np pc) e 0) ∧ zs.length ≤ lc ∧ (lc ≤ 9223372036854775807 ∧ zs.length ≤ 4611686018427387903) ∧ np ≤ pc ∧ pc ≤ 9223372036854775807 ∧ lb < S ∧
    (∀ j u, zs[j]? = some u → w.cell? ⟨lb, lo + j, none⟩ = some u) ∧ Reads w S 1 PA np (List.replicate np (.int .i64 0)) ∧ 0 < zs.length ∧ (∀ u ∈ zs, u.oneCell' = true)

theorem Src.lt {w : World} {S np : Nat} {zs : List Value} {e : Value} (h : Src w S np zs e) : S < w.heap.size := by
  obtain ⟨_, _, _, _, _, h, _⟩ := h
  exact h.lt

theorem Src.kept {D : List Nat} {w w' : World} {S np : Nat} {zs : List Value} {e : Value} (h : Src w S np zs e) (hk : Kept D w w') (hD : ∀ k, k ∈ D → S < k) : Src w' S np zs e := by
  have hlt := h.lt
  obtain ⟨lb, lo, lc, PA, pc, hb, h1, h2, h3, h4, h5, h6, h7, h8⟩ := h
  refine ⟨lb, lo, lc, PA, pc, hb.kept hk (fun hm => by have := hD _ hm; omega), h1, h2, h3, h4, h5, fun j u hu => ?_, h7.kept (by omega) hk (fun k hm => by have := hD _ hm; omega), h8⟩
  exact (hk.cell (p := ⟨lb, lo + j, none⟩) (by show lb < _; omega) (fun hm => by have := hD _ hm; simp at this; omega)).trans (h6 j u hu)

theorem Src.drewN {w : World} {S np : Nat} {zs : List Value} {e : Value} (h : Src w S np zs e) (n : Nat) : Src (w.drewN n) S np zs e := h

def IntNil (n : Nat) : Ending := .returned (.tuple #[.int .i64 n, .nilIface])

theorem read_zero (S np : Nat) (zs : List Value) (e : Value) (pb po m c : Nat) (w : World) (h : Src w S (np + 1) zs e) (hm : 0 < m) (hmc : m ≤ c) (hc : c ≤ 9223372036854775807) :
    Calls Tryd.prog 48 #[.pointer (some ⟨S, 0, none⟩), .slice (some ⟨pb, po, none⟩) m c] w fun r w' => r = .returned (.tuple #[.int .i64 0, .nilIface]) ∧ Src w' S np zs e ∧ Kept [S] w w' := by
  have hlt := h.lt
  obtain ⟨lb, lo, lc, PA, pc, hb, h1, h2, h3, h4, h5, h6, h7, h8, h9⟩ := h
  obtain ⟨ad, u, rfl, hbl, hu, hcell⟩ := h7.at_ (k := 0) (by omega)
  obtain ⟨Q, o, spot⟩ := ad
  have hspot : spot = none := by simpa [Addr.add] using World.cell?_spot hcell
  subst hspot
  have hz : w.cell? ⟨Q, o, none⟩ = some (.int .i64 0) := by
    simp at hu
    subst hu
    simpa [Addr.add] using hcell
  refine (src_zero S lb lo zs.length lc Q o (np + 1) pc pb po m c e 0 w hb h8 h1 (by omega) (by omega) h3 h4 hz hm hmc hc (by omega) (by omega)).mono fun r w' ⟨he, hB, hK⟩ => ⟨he, ?_, hK⟩
  refine ⟨lb, lo, lc, some ⟨Q, if pc = 1 then o else o + 1, none⟩, pc - 1, by simpa using hB, h1, h2, by omega, by omega, h5, fun j u hu => ?_, ?_, h8, h9⟩
  · exact (hK.cell (p := ⟨lb, lo + j, none⟩) (by show lb < _; omega) (by simp; omega)).trans (h6 j u hu)
  · have hc := (h7.kept (by omega) hK (by simp)).cut (k := 1) (cap := pc) (by omega) h3
    simp only [Nat.add_sub_cancel, Nat.mul_one, List.replicate_succ, List.drop_succ_cons, List.drop_zero] at hc
    by_cases hp : pc = 1
    · rw [if_pos hp] at hc ⊢
      exact hc
    · rw [if_neg hp] at hc ⊢
      exact hc

theorem read_all (S Bf m k : Nat) (zs : List Value) (e : Value) (cur : Array Value) (w : World) (h : Src w S 0 zs e) (hb : Blk w Bf 5 cur) (hcm : cur.size = m) (hSB : S < Bf) (hk : k = min zs.length m) (hm : 0 < m) (hmm : m ≤ 4096) :
    Calls Tryd.prog 48 #[.pointer (some ⟨S, 0, none⟩), .slice (some ⟨Bf, 0, none⟩) m m] w fun r w' => r = .returned (.tuple #[.int .i64 k, .nilIface]) ∧
      (∃ L P', Blk w' S 46 (srcC L P' e k)) ∧ Blk w' Bf 5 (zs.take m ++ cur.toList.drop k).toArray ∧ Kept [S, Bf] w w' := by
  obtain ⟨lb, lo, lc, PA, pc, hS, h1, h2, h3, h4, h5, h6, h7, h8, h9⟩ := h
  refine (src_all S lb lo zs.length lc pc Bf m k PA e 0 zs cur w hS hb hcm (by omega) hk h8 h1 (by omega) hm (by omega) (by omega) (by omega) (by omega) rfl h6 h9).mono fun r w' ⟨he, ⟨L, hL⟩, hB, hK⟩ => ⟨he, ⟨L, .slice PA 0 pc, ?_⟩, hB, hK⟩
  simpa using hL

theorem method_read (a : Addr) (w : World) : (method 215 37 (.pointer (some a)) "Read").run Tryd.prog w = .ok (48, .pointer (some a)) w := by kernel_rfl

abbrev rdV (S : Nat) : Value := .iface 37 (.pointer (some ⟨S, 0, none⟩))

set_option maxHeartbeats 800000 in
set_option maxRecDepth 100000 in
theorem fill_np (R S Bf m np : Nat) (lb lr : Int) (zs : List Value) (e : Value) (a6 : Addr) (w : World) (hR : Blk w R 53 (rdr (.slice (some ⟨Bf, 0, none⟩) m m) (rdV S) 0 0 .nilIface lb lr)) (hS : Src w S (np + 100) zs e)
    (hSR : S < R) (h6 : w.cell? ⟨6, 0, none⟩ = some (ev a6)) (h6S : 6 < S) (hm : 0 < m) (hm' : m ≤ 4096) :
    Calls Tryd.prog 28 #[.pointer (some ⟨R, 0, none⟩)] w fun r w' => r = .returned (.tuple #[]) ∧ Blk w' R 53 (rdr (.slice (some ⟨Bf, 0, none⟩) m m) (rdV S) 0 0 (ev a6) lb lr) ∧ Src w' S np zs e ∧ Kept [S, R] w w' := by
  have c0 : w.cell? ⟨R, 0, none⟩ = some (.slice (some ⟨Bf, 0, none⟩) m m) := hR.cell 0
  have c2 : w.cell? ⟨R, 2, none⟩ = some (.int .i64 0) := hR.cell 2
  have c3 : w.cell? ⟨R, 3, none⟩ = some (.int .i64 0) := hR.cell 3
  have HR := Lib.hid hR
  have HS := Lib.hid hS
  have hmz : ¬ m = 0 := by omega
  clear hR hS
  go_enter Tryd.func28, Tryd.ntmps28
  go_wp2
  go_quiet (fail)
  go_wp2
  go_loopg [2] 100 (fun k i wr => k ≤ 100 ∧ i = .int .i64 (k : Nat) ∧ Hid (Blk wr R 53 (rdr (.slice (some ⟨Bf, 0, none⟩) m m) (rdV S) 0 0 .nilIface lb lr)) ∧ Hid (Src wr S (np + k) zs e) ∧ Hid (Kept [S, R] w wr))
  case atStart => exact ⟨by omega, rfl, HR.out.drewN _, HS.out.drewN _, (Kept.refl _ _).drewN _⟩
  case round =>
    obtain ⟨hk, rfl, hRr, hSr, hKr⟩ := hrel
    have c0 : wr.cell? ⟨R, 0, none⟩ = some (.slice (some ⟨Bf, 0, none⟩) m m) := hRr.out.cell 0
    have c1 : wr.cell? ⟨R, 1, none⟩ = some (rdV S) := hRr.out.cell 1
    have c3 : wr.cell? ⟨R, 3, none⟩ = some (.int .i64 0) := hRr.out.cell 3
    have hmr := method_read
    by_cases hk0 : 0 < gk
    · have hSq : Hid (Src wr S (np + (gk - 1) + 1) zs e) := by
        have := hSr.out
        rw [show np + gk = np + (gk - 1) + 1 by omega] at this
        exact this
      clear hSr
      go_wp2_with fail
      go_cut [3, 4] (fun n er wx => n = .int .i64 0 ∧ er = .nilIface ∧ Hid (Src wx S (np + (gk - 1)) zs e) ∧ Hid (Kept [S] wr wx))
      case first =>
        go_region_with (go_at_call 48; refine (read_zero S (np + (gk - 1)) zs e Bf 0 m m _ (hSq.out.drewN 1) hm (Nat.le_refl _) (by omega)).mono ?_; rintro r w1 ⟨rfl, hS1, hK1⟩)
        all_goals simp only [Act.put, List.setIfInBounds_toArray, List.set_cons_succ, List.set_cons_zero, List.getElem_toArray, List.getElem_cons_succ, List.getElem_cons_zero]
        all_goals go_wp2_with fail
        all_goals go_meet
        all_goals exact ⟨rfl, rfl, hS1, ⟨hK1.os, hK1.tape, hK1.output, hK1.size, hK1.block⟩⟩
      case rest =>
        obtain ⟨rfl, rfl, hS1, hK1⟩ := hcut
        have hR1 := hRr.out.kept hK1.out (by simp; omega)
        have d3 : wc.cell? ⟨R, 3, none⟩ = some (.int .i64 0) := hR1.cell 3
        have f3 := hR1.frozen 3
        have HR1 := Lib.hid hR1
        clear hR1 c0 c1 c3
        go_wp2
        go_roundg (gk - 1)
        case measure => omega
        case rel =>
          have hK2 : Kept [R] wc (wc.setCell ⟨R, 3, none⟩ (.int .i64 0)) := (Kept.refl _ _).setCell (by simp) _
          exact ⟨by omega, by rw [show ((gk - 1 : Nat) : Int) = (gk : Int) - 1 by omega], HR1.out.set_ 3 _, hS1.out.kept hK2 (by simp; omega), (hKr.out.trans (hK1.out.mono (by simp))).trans (hK2.mono (by simp))⟩
    · obtain rfl : gk = 0 := by omega
      have f4 := hRr.out.frozen 4
      have h6r : wr.cell? ⟨6, 0, none⟩ = some (ev a6) := (hKr.out.cell (p := ⟨6, 0, none⟩) (by show 6 < _; have := HS.out.lt; omega) (by simp; omega)).trans h6
      have c4 : wr.cell? ⟨R, 4, none⟩ = some .nilIface := hRr.out.cell 4
      clear h6
      go_wp2
      go_end0
      exact ⟨rfl, hRr.out.set_ 4 _, hSr.out.kept (D := [R]) ((Kept.refl _ _).setCell (by simp) _) (by simp; omega), (hKr.out).setCell (by simp) _⟩
end Go.Proofs.YtbgejedfdhnfpaaDoor
