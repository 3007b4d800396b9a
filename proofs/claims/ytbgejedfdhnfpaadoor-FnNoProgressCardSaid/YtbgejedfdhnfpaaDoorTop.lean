/-
  The contract of impl.Run at a script of ReadByte, over a source with rem + 100 q pieces of no bytes ahead of its data.
-/
import Derived.Test.YtbgejedfdhnfpaaDoorPart
import Derived.Test.YtbgejedfdhnfpaaDoorOpen
namespace Go.Proofs.YtbgejedfdhnfpaaDoor
open Go.RowKit

theorem Opened.src {B np : Nat} {zs : List Int} {e : Value} {w : World} {S : Nat} (h : Opened B zs.length np (bs zs) (zp np) e w S) (hz : 0 < zs.length) (hn : zs.length ≤ 140737488351232) : Src w S np (bs zs) e := by
  obtain ⟨LA, lc, PA, pc, hb, ⟨g, rfl⟩, h1, h2, h3, h4, h5, h6, _⟩ := h
  unfold maxLen at h2 h4
  obtain ⟨ad, hA, hlt, hc⟩ := h5.2 hz
  have hA' : (⟨g, 0, none⟩ : Addr) = ad := by injection hA
  subst hA'
  refine ⟨g, 0, lc, PA, pc, by rw [bs_len]; exact hb, by rw [bs_len]; exact h1, ⟨by omega, by rw [bs_len]; omega⟩, h3, by omega, hlt, fun j u hu => ?_, h6, by rw [bs_len]; exact hz, bs_one zs⟩
  have := hc j u hu
  rwa [Addr.add_lit] at this

/-- The call of run at the end of Run. -/
theorem top_end {B : Nat} (q rem cc C S m : Nat) (lb lr z : Int) (zr : List Int) (cur : Array Value) (a0 a1 a3 a4 a5 a6 : Addr) (w w1 w2 : World)
    (hS : Src w1 S (rem + 100 * q) (bs (z :: zr)) (ev a0)) (hb1 : Below w.heap.size w w1) (hSw : w.heap.size < S) (hcm : cur.size = m)
    (hR : Blk w2 w1.heap.size 53 (rdr (.slice (some ⟨w1.heap.size + 1, 0, none⟩) m m) (rdV S) 0 0 .nilIface lb lr)) (hB : Blk w2 (w1.heap.size + 1) 5 cur) (hK : Kept [] w1 w2) (hm0 : 0 < m) (hm1 : m ≤ 4096)
    (hrem : rem < 100) (hq : q ≤ 20) (E : Errs B w a0 a1 a3 a4 a5 a6) (hBw : B ≤ w.heap.size) (hC : C < w.heap.size) (hcc : q + 1 ≤ cc)
    (hcs : ∀ k, k < q + 1 → w.cell? ⟨C, k * 3, none⟩ = some (.int .i64 1) ∧ w.cell? ⟨C, k * 3 + 1, none⟩ = some (.int .i64 0) ∧ w.cell? ⟨C, k * 3 + 2, none⟩ = some (.int .u8 0)) :
    Calls Tryd.prog 9 #[.pointer (some ⟨w1.heap.size, 0, none⟩), .pointer (some ⟨S, 0, none⟩), .slice (some ⟨C, 0, none⟩) (q + 1) cc] w2 fun r w' => ∃ G c' g j, r = .returned (.slice (some ⟨G, 0, none⟩) (q + 1) c') ∧ q + 1 ≤ c' ∧ c' ≤ maxLen ∧ Blk w' g 5 #[.int .u8 z] ∧ (∀ i u, (outsN q ++ outL g j)[i]? = some u → w'.cell? ⟨G, i, none⟩ = some u) ∧ Below w.heap.size w w' := by
  have hSl := hS.lt
  have h1 := hb1.size
  have h2 := hK.size
  have hb2 : Below w.heap.size w w2 := hb1.trans (hK.below h1 (by simp))
  have hS2 : Src w2 S (rem + 100 * q) (.int .u8 z :: bs zr) (ev a0) := hS.kept hK (by simp)
  refine (run_any w1.heap.size S (w1.heap.size + 1) m q rem C cc lb lr z (bs zr) (ev a0) cur a0 a1 a3 a4 a5 a6 w2 hR hS2 hB hcm hrem hq hSl (by omega) (E.below (hb2.mono hBw)) (by omega) hm0 hm1 (by omega) (by omega) (by omega) (by omega) hcc ?_).mono ?_
  · intro k hk
    obtain ⟨x0, x1, x2⟩ := hcs k hk
    exact ⟨(hb2.cell (p := ⟨C, k * 3, none⟩) hC).trans x0, (hb2.cell (p := ⟨C, k * 3 + 1, none⟩) hC).trans x1, (hb2.cell (p := ⟨C, k * 3 + 2, none⟩) hC).trans x2⟩
  · rintro r w' ⟨v, g, j, rfl, hg, hown, hK'⟩
    obtain ⟨G, cap, hv, hge, hlt⟩ := hown.form (by omega)
    subst hv
    have hcells := hown.cells (g := G) rfl
    rcases hown.2 with ⟨hx, _⟩ | ⟨g', cap', cur', hv', _, _, hnc, hcm', _⟩
    · cases hx
    · injection hv' with e1 e2 e3
      subst e3
      refine ⟨G, cap, g, j, rfl, hnc, hcm', hg, fun i u hu => ?_, hb2.trans (hK'.below (by omega) (by simp; omega))⟩
      have := hcells i u hu
      rwa [Addr.add_lit, Nat.zero_add] at this

set_option maxHeartbeats 800000 in
theorem top_any {B : Nat} (q rem n cc c1 c2 C : Nat) (s z : Int) (zr : List Int) (A1 A2 : Option Addr) (a0 a1 a3 a4 a5 a6 : Addr) (w : World)
    (hn : n = (z :: zr).length) (h1 : Reads w w.heap.size 1 A1 n (bs (z :: zr))) (h2 : Reads w w.heap.size 1 A2 (rem + 100 * q) (zp (rem + 100 * q))) (hrem : rem < 100) (hq : q ≤ 20) (hnn : n ≤ 140737488351232)
    (E : Errs B w a0 a1 a3 a4 a5 a6) (hBw : B ≤ w.heap.size) (hs' : -9223372036854775808 ≤ s) (hC : C < w.heap.size) (hcc : q + 1 ≤ cc) (hnp : rem + 100 * q ≤ 2000)
    (hcs : ∀ k, k < q + 1 → w.cell? ⟨C, k * 3, none⟩ = some (.int .i64 1) ∧ w.cell? ⟨C, k * 3 + 1, none⟩ = some (.int .i64 0) ∧ w.cell? ⟨C, k * 3 + 2, none⟩ = some (.int .u8 0)) :
    Calls Tryd.prog 4 #[.int .i64 s, .agg #[.slice A1 n c1, .slice A2 (rem + 100 * q) c2, .bool false, .bool false], .slice (some ⟨C, 0, none⟩) (q + 1) cc] w fun r w' => ∃ G c' g j, r = .returned (.slice (some ⟨G, 0, none⟩) (q + 1) c') ∧ q + 1 ≤ c' ∧ c' ≤ maxLen ∧ Blk w' g 5 #[.int .u8 z] ∧ (∀ i u, (outsN q ++ outL g j)[i]? = some u → w'.cell? ⟨G, i, none⟩ = some u) ∧ Below w.heap.size w w' := by
  have H1 := Lib.hid h1
  have H2 := Lib.hid h2
  have HE := Lib.hid E
  have HCS := Lib.hid hcs
  have HN := Lib.hid hn
  have hn0 : 0 < n := by rw [hn]; simp
  clear h1 h2 E hcs hn
  by_cases hs : 4096 < s
  all_goals
    go_enter Tryd.func4, Tryd.ntmps4
    go_wp2_with fail
    refine (open_all n (rem + 100 * q) c1 c2 A1 A2 (bs (z :: zr)) (zp (rem + 100 * q)) a0 _ ((H1.out.alloc (Nat.le_refl _) _).more (by simp)) ((H2.out.alloc (Nat.le_refl _) _).more (by simp)) ?_ hn0 hnn hnp).mono ?_
    · exact (HE.out.below ((Below.refl _ _).alloc hBw _)).g0
    rintro r w1 ⟨S, rfl, hO, hb1⟩
    simp only [World.size_alloc] at hO hb1
    have hS : Src w1 S (rem + 100 * q) (bs (z :: zr)) (ev a0) := by
      have := HN.out
      subst this
      exact hO.src (by simp) hnn
    have hSw : w.heap.size < S := by
      obtain ⟨_, _, _, _, _, _, _, _, _, _, _, _, h⟩ := hO
      omega
    have hSl := hS.lt
    have hb1' : Below w.heap.size w w1 := ((Below.refl _ _).alloc (Nat.le_refl _) _).trans (hb1.mono (by omega))
    have HS := Lib.hid hS
    have HB1 := Lib.hid hb1'
    clear hO hb1 hS hb1'
    go_wp2_with fail
  · refine (new_any S 4096 _ (by omega) (by omega)).mono ?_
    rintro r w2 ⟨rfl, m, cur, hm0, hm1, hcm, hR, hB, hK⟩
    have hfin := top_end q rem cc C S m (-1) (-1) z zr cur a0 a1 a3 a4 a5 a6 w w1 w2 HS.out HB1.out hSw hcm hR hB hK hm0 hm1 hrem hq HE.out hBw hC hcc HCS.out
    have HF := Lib.hid hfin
    clear hfin hR hB hK hcm
    go_wp2_with fail
    refine HF.out.mono ?_
    rintro r w3 ⟨G, c', g, j, rfl, hf⟩
    have HF2 := Lib.hid hf
    clear hf HF
    go_wp2_with fail
    go_ret
    exact ⟨G, c', g, j, rfl, HF2.out⟩
  · refine (new_any S s _ (by omega) hs').mono ?_
    rintro r w2 ⟨rfl, m, cur, hm0, hm1, hcm, hR, hB, hK⟩
    have hfin := top_end q rem cc C S m (-1) (-1) z zr cur a0 a1 a3 a4 a5 a6 w w1 w2 HS.out HB1.out hSw hcm hR hB hK hm0 hm1 hrem hq HE.out hBw hC hcc HCS.out
    have HF := Lib.hid hfin
    clear hfin hR hB hK hcm
    go_wp2_with fail
    refine HF.out.mono ?_
    rintro r w3 ⟨G, c', g, j, rfl, hf⟩
    have HF2 := Lib.hid hf
    clear hf HF
    go_wp2_with fail
    go_ret
    exact ⟨G, c', g, j, rfl, HF2.out⟩
end Go.Proofs.YtbgejedfdhnfpaaDoor
