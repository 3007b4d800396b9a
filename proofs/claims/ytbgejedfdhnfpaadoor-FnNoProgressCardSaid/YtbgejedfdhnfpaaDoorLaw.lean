/-
  The walk of laws.FnNoProgress: it returns true, for every input, and writes nothing that was there. Condition: the variables of errors hold what the program's text lays there (Errs).
-/
import Derived.Test.YtbgejedfdhnfpaaDoorTop
import Derived.Test.YtbgejedfdhnfpaaDoorSame
namespace Go.Proofs.YtbgejedfdhnfpaaDoor
open Go.RowKit

set_option maxHeartbeats 400000 in
theorem law_none (A : Option Addr) (n c : Nat) (x s : Int) (w : World) (h : n = 0 ∨ x < 0 ∨ 2000 < x) :
    Calls Tryd.prog 3 #[.slice A n c, .int .i64 x, .int .i64 s] w fun e w' => e = .returned (.bool true) ∧ Below w.heap.size w w' := by
  by_cases h0 : n = 0
  · subst h0
    go_enter Tryd.func3, Tryd.ntmps3
    go_wp2_with fail
    go_ret
    exact ⟨rfl, Below.refl _ _⟩
  · have hn : ((n : Int) == 0) = false := by simp; omega
    by_cases h1 : x < 0
    · go_enter Tryd.func3, Tryd.ntmps3
      go_wp2_with fail
      go_ret
      exact ⟨rfl, Below.refl _ _⟩
    · have h2 : 2000 < x := by omega
      have h1' : decide (x < 0) = false := by simp; omega
      go_enter Tryd.func3, Tryd.ntmps3
      go_wp2_with fail
      go_ret
      exact ⟨rfl, Below.refl _ _⟩

theorem bel_drewN {B : Nat} {a w : World} (h : Below B a w) (n : Nat) : Below B a (w.drewN n) := ⟨h.os, h.tape, h.output, h.size, h.block⟩

/-- The cells of the Outs. -/
theorem outsN_len (q : Nat) : (outsN q).length = q * 6 := by
  induction q with
  | zero => rfl
  | succ q ih => rw [outsN_succ, List.length_append, ih]; simp [outN]; omega
theorem outsN_at (q k i : Nat) (hk : k < q) (hi : i < 6) : (outsN q)[k * 6 + i]? = outN[i]? := by
  induction q with
  | zero => omega
  | succ q ih =>
    rw [outsN_succ]
    by_cases hq : k < q
    · rw [List.getElem?_append_left (by rw [outsN_len]; omega)]
      exact ih hq
    · obtain rfl : k = q := by omega
      rw [List.getElem?_append_right (by rw [outsN_len]; omega), outsN_len]
      congr 1
      omega
theorem cs_len (q : Nat) : (cs q).length = q * 3 := by
  induction q with
  | zero => rfl
  | succ q ih => rw [cs_succ, List.length_append, ih]; simp; omega
theorem cs_at (q k i : Nat) (hk : k < q) (hi : i < 3) : (cs q)[k * 3 + i]? = [Value.int .i64 1, .int .i64 0, .int .u8 0][i]? := by
  induction q with
  | zero => omega
  | succ q ih =>
    rw [cs_succ]
    by_cases hq : k < q
    · rw [List.getElem?_append_left (by rw [cs_len]; omega)]
      exact ih hq
    · obtain rfl : k = q := by omega
      rw [List.getElem?_append_right (by rw [cs_len]; omega), cs_len]
      congr 1
      omega

theorem repeated_pos (q : Nat) (w : World) (hq : q ≤ 20) :
    Calls Tryd.prog 6 #[callV, .int .i64 ((q : Int) + 1)] w fun r w' => ∃ C cc, r = .returned (.slice (some ⟨C, 0, none⟩) (q + 1) cc) ∧ q + 1 ≤ cc ∧ C < w'.heap.size ∧
      (∀ k, k < q + 1 → w'.cell? ⟨C, k * 3, none⟩ = some (.int .i64 1) ∧ w'.cell? ⟨C, k * 3 + 1, none⟩ = some (.int .i64 0) ∧ w'.cell? ⟨C, k * 3 + 2, none⟩ = some (.int .u8 0)) ∧ Below w.heap.size w w' := by
  have h := repeated_all (q + 1) w (by omega)
  rw [show ((q + 1 : Nat) : Int) = (q : Int) + 1 by omega] at h
  refine h.mono ?_
  rintro r w' ⟨A, c', rfl, hown, hb⟩
  obtain ⟨C, cap, hv, _, hlt⟩ := hown.form (by omega)
  rw [hv] at hown ⊢
  have hcells := hown.cells (g := C) rfl
  rcases hown.2 with ⟨hx, _⟩ | ⟨g', cap', cur', hv', _, _, hnc, _⟩
  · cases hx
  · injection hv' with e1 e2 e3
    subst e3
    refine ⟨C, cap, rfl, hnc, hlt, fun k hk => ⟨?_, ?_, ?_⟩, hb⟩
    · have := hcells (k * 3) (.int .i64 1) (cs_at (q + 1) k 0 hk (by omega))
      rwa [Addr.add_lit, Nat.zero_add] at this
    · have := hcells (k * 3 + 1) (.int .i64 0) (cs_at (q + 1) k 1 hk (by omega))
      rwa [Addr.add_lit, Nat.zero_add] at this
    · have := hcells (k * 3 + 2) (.int .u8 0) (cs_at (q + 1) k 2 hk (by omega))
      rwa [Addr.add_lit, Nat.zero_add] at this

set_option maxHeartbeats 1600000 in
set_option maxRecDepth 100000 in
theorem law_some (b off n c e q rem : Nat) (s z : Int) (zr : List Int) (a0 a1 a3 a4 a5 a6 : Addr) (w : World) (hl : (z :: zr).length = n)
    (hc : ∀ j, j < n → w.cell? ⟨b, off + j, none⟩ = some (.int .u8 ((z :: zr).getD j 0))) (hn : n ≤ 140737488351232) (hcap : n ≤ c) (he : e = rem + 100 * q) (hrem : rem < 100) (he' : e ≤ 2000)
    (hs' : -9223372036854775808 ≤ s) (E : Errs w.heap.size w a0 a1 a3 a4 a5 a6) :
    Calls Tryd.prog 3 #[.slice (some ⟨b, off, none⟩) n c, .int .i64 e, .int .i64 s] w fun r w' => r = .returned (.bool true) ∧ Below w.heap.size w w' := by
  have hn0 : 0 < n := by rw [← hl]; simp
  have hb : b < w.heap.size := World.block_lt_of_cell? w _ (hc 0 hn0)
  have hdiv : (e : Int) / 100 = (q : Int) := by omega
  obtain ⟨cur, hcur, hmk⟩ : ∃ cur : Array Value, Hid (∀ j, j < e → cur[j]? = some (.int .i64 0)) ∧ ∀ W : World, (Instr.makeSlice 25 (.int .i64 e) (.int .i64 e)).run Tryd.prog W = .ok (.slice (some ⟨W.heap.size, 0, none⟩) e e) (W.alloc (.cells cur 3)) := by
    refine ⟨madeCells #[.int .i64 0] e, ?_, run_make_row' (P := Tryd.prog) 25 3 (.int .i64 0) 8 Tryd.underlying25 Tryd.info3 rfl .i64 .i64 e (by omega) (by omega)⟩
    intro j hj
    simp [madeCells, hj, Nat.mod_one]
  have t1 : ((n : Int) == 0) = false := by simp; omega
  have t2 : decide ((e : Int) < 0) = false := by simp
  have t3 : decide ((2000 : Int) < (e : Int)) = false := by simp; omega
  have HL := Lib.hid hl
  have HC := Lib.hid hc
  have HE := Lib.hid E
  have HEE := Lib.hid he
  clear hl hc E he
  go_enter Tryd.func3, Tryd.ntmps3
  go_wp2_with fail
  refine (source_all b off n c w.heap.size e (z :: zr) _ HL.out (fun j hj => (World.cell?_alloc_lt w _ ⟨b, off + j, none⟩ hb).trans (HC.out j hj)) (by simp; omega) hn hcap (fun j hj => ((Blk.new w 3 cur).cell j).trans (hcur.out j hj)) (by simp) he').mono ?_
  rintro r w1 ⟨A1, c1, A2, c2, rfl, hown1, hown2, hb1⟩
  have hbw1 : Below w.heap.size w w1 := ((Below.refl _ _).alloc (Nat.le_refl _) _).trans (hb1.mono (by simp))
  have hz1 := hbw1.size
  have HO1 := Lib.hid hown1
  have HO2 := Lib.hid hown2
  have HB1 := Lib.hid hbw1
  have hq20 : q ≤ 20 := by have := HEE.out; omega
  clear hown1 hown2 hb1 hbw1
  go_wp2_with fail
  refine (repeated_pos q w1 hq20).mono ?_
  rintro r w2 ⟨C, cc, rfl, hcc, hC, hcs, hb2⟩
  have hz2 := hb2.size
  have hbw2 : Below w.heap.size w w2 := HB1.out.trans (hb2.mono hz1)
  have hr1 : Reads w2 w2.heap.size 1 A1 n (bs (z :: zr)) := ((Reads.of_own (own_mono HO1.out (Nat.zero_le _))).below hb2).more hz2
  have hr2 : Reads w2 w2.heap.size 1 A2 (rem + 100 * q) (zp (rem + 100 * q)) := by
    have h := HO2.out
    have he := HEE.out
    subst he
    exact ((Reads.of_own (own_mono h (Nat.zero_le _))).below hb2).more hz2
  have htop := top_any q rem n cc c1 c2 C s z zr A1 A2 a0 a1 a3 a4 a5 a6 w2 HL.out.symm hr1 hr2 hrem hq20 hn (HE.out.below hbw2) hbw2.size hs' hC hcc (by have := HEE.out; omega) hcs
  rw [← HEE.out] at htop
  have HTop := Lib.hid htop
  have HB2 := Lib.hid hbw2
  clear hcs hb2 hbw2 hr1 hr2 htop HO1 HO2
  go_wp2_with fail
  refine HTop.out.mono ?_
  rintro r w3 ⟨G, c', g, j, rfl, hqc, hcm, hg, hcells, hb3⟩
  have hbw3 : Below w.heap.size w w3 := HB2.out.trans (hb3.mono HB2.out.size)
  unfold maxLen at hcm
  have HG := Lib.hid hg
  have HCells := Lib.hid hcells
  have HB3 := Lib.hid hbw3
  clear hg hcells hb3 hbw3 HTop
  go_wp2_with fail
  have hGl : G < w3.heap.size := World.block_lt_of_cell? w3 ⟨G, q * 6, none⟩ (HCells.out (q * 6) (.slice (some ⟨g, 0, none⟩) 1 1) (by rw [List.getElem?_append_right (by rw [outsN_len]; omega), outsN_len]; simp [outL]))
  go_loopg [44] q (fun gk i wr => ∃ k : Nat, k + gk = q ∧ i = .int .i64 k ∧ Hid (Below w3.heap.size w3 wr))
  case atStart => exact ⟨0, by omega, rfl, Below.refl _ _⟩
  case round =>
    obtain ⟨k, hk, rfl, hbr⟩ := hrel
    by_cases hlt : k < q
    · have at6 : ∀ i u, i < 6 → outN[i]? = some u → wr.cell? ⟨G, k * 6 + i, none⟩ = some u := fun i u hi hu => (hbr.out.cell (p := ⟨G, k * 6 + i, none⟩) hGl).trans (HCells.out _ u (by rw [List.getElem?_append_left (by rw [outsN_len]; omega), outsN_at q k i hlt hi]; exact hu))
      have x0 : wr.cell? ⟨G, k * 6, none⟩ = some (.slice none 0 0) := at6 0 _ (by omega) rfl
      have x1 : wr.cell? ⟨G, k * 6 + 1, none⟩ = some (.int .i64 0) := at6 1 _ (by omega) rfl
      have x2 : wr.cell? ⟨G, k * 6 + 2, none⟩ = some (.bool false) := at6 2 _ (by omega) rfl
      have x3 : wr.cell? ⟨G, k * 6 + 3, none⟩ = some (.int .i64 6) := at6 3 _ (by omega) rfl
      have x4 : wr.cell? ⟨G, k * 6 + 4, none⟩ = some (.int .i64 0) := at6 4 _ (by omega) rfl
      have x5 : wr.cell? ⟨G, k * 6 + 5, none⟩ = some (.int .i64 0) := at6 5 _ (by omega) rfl
      clear at6
      go_wp2_with fail
      go_roundg (gk - 1)
      case measure => omega
      case rel => exact ⟨k + 1, by omega, by go_num, hbr.out.alloc hbr.out.size _⟩
    · obtain rfl : k = q := by omega
      have at6 : ∀ i u, i < 6 → (outL g j)[i]? = some u → wr.cell? ⟨G, k * 6 + i, none⟩ = some u := fun i u hi hu => (hbr.out.cell (p := ⟨G, k * 6 + i, none⟩) hGl).trans (HCells.out _ u (by rw [List.getElem?_append_right (by rw [outsN_len]; omega), outsN_len, show k * 6 + i - k * 6 = i by omega]; exact hu))
      have x0 : wr.cell? ⟨G, k * 6, none⟩ = some (.slice (some ⟨g, 0, none⟩) 1 1) := at6 0 _ (by omega) rfl
      have x1 : wr.cell? ⟨G, k * 6 + 1, none⟩ = some (.int .i64 1) := at6 1 _ (by omega) rfl
      have x2 : wr.cell? ⟨G, k * 6 + 2, none⟩ = some (.bool false) := at6 2 _ (by omega) rfl
      have x3 : wr.cell? ⟨G, k * 6 + 3, none⟩ = some (.int .i64 0) := at6 3 _ (by omega) rfl
      have x4 : wr.cell? ⟨G, k * 6 + 4, none⟩ = some (.int .i64 ((j : Int) - 1)) := at6 4 _ (by omega) rfl
      have x5 : wr.cell? ⟨G, k * 6 + 5, none⟩ = some (.int .i64 j) := at6 5 _ (by omega) rfl
      have hgl : g < wr.heap.size := Nat.lt_of_lt_of_le HG.out.lt hbr.out.size
      have hbl : b < wr.heap.size := Nat.lt_of_lt_of_le hb (Nat.le_trans HB3.out.size hbr.out.size)
      have y1 : Hid (wr.cell? ⟨g, 0, none⟩ = some (.int .u8 z)) := (hbr.out.cell (p := ⟨g, 0, none⟩) HG.out.lt).trans (HG.out.cell 0)
      have y2 : Hid (wr.cell? ⟨b, off, none⟩ = some (.int .u8 z)) := (hbr.out.cell (p := ⟨b, off, none⟩) (Nat.lt_of_lt_of_le hb HB3.out.size)).trans ((HB3.out.cell (p := ⟨b, off, none⟩) hb).trans (HC.out 0 hn0))
      have hc1 : (1 : Int) ≤ (c : Int) := by omega
      clear at6
      go_wp2_with fail
      go_quiet ((go_at_call 7; exact Calls.quiet_of (same_one g b off 1 c z _ ((World.cell?_alloc_lt wr _ ⟨g, 0, none⟩ hgl).trans y1.out) ((World.cell?_alloc_lt wr _ ⟨b, off, none⟩ hbl).trans y2.out))))
      go_wp2_with fail
      go_ret
      exact ⟨rfl, bel_drewN ((HB3.out.trans (hbr.out.mono HB3.out.size)).alloc (Nat.le_trans HB3.out.size hbr.out.size) _) _⟩
end Go.Proofs.YtbgejedfdhnfpaaDoor
