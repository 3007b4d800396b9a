/-
  laws.FnNoProgress returns true for every input, and each argument reads afterwards as it read before: the given statement Rows.FnNoProgressSaid, and its tied card. No condition beside the row's own (the listed variables of errors hold what the program's text lays there, which the card ties to the text).
-/
import Derived.Test.YtbgejedfdhnfpaaDoorCards
import Derived.Test.YtbgejedfdhnfpaaDoorTie
import Derived.Test.YtbgejedfdhnfpaaDoorLaid
import Derived.Test.YtbgejedfdhnfpaaDoorLaw
import Derived.ProofKit
import Derived.LaidMore
import Derived.OpenShut
import Derived.SizedLaws
import Derived.Stop.Joined
import Derived.Stop.LaidErr
namespace Go.Proofs.YtbgejedfdhnfpaaDoor
open Go.ChangeShapes Go.WideShapes Go.ChangeAt Go.RowKit

theorem own : ownKnob Tryd.prog.godebug = none := by kernel_rfl
theorem laidOut : laidOutB Tryd.prog = true := by kernel_rfl
theorem gBroken : Tryd.prog.globalNamed "loop.example/lib-g01432/impl.errBroken" = some 1 := by kernel_rfl
theorem tBroken : (Tryd.prog.globals[1]?).map (·.type) = some 44 := by kernel_rfl
theorem cells5 : Tryd.prog.cellsOf 5 = 1 := by kernel_rfl
theorem bytes5 : Tryd.prog.bytesOf 5 = 1 := by kernel_rfl

/-- The walk, for every input. -/
theorem walk (A : Option Addr) (n c : Nat) (x s : Int) (w : World) (zs : List Int) (hx : (Lit.int .i64 x).wf = true) (hs : (Lit.int .i64 s).wf = true)
    (hd : n = 0 ∨ ∃ a, A = some a ∧ n ≤ c ∧ zs.length = c ∧ c ≤ 140737488351232 ∧ ∀ i, i < zs.length → w.cell? (a.add i) = some (.int .u8 (zs.getD i 0)))
    (hL : laidMetH Tryd.prog Rows.fnNoProgressRow.laid w) :
    Calls Tryd.prog 3 #[.slice A n c, .int .i64 x, .int .i64 s] w fun r w' => r = .returned (.bool true) ∧ Below w.heap.size w w' := by
  by_cases h : n = 0 ∨ x < 0 ∨ 2000 < x
  · exact law_none A n c x s w h
  · rcases hd with h0 | ⟨a, rfl, hnc, hlen, hcb, hcell⟩
    · omega
    · obtain ⟨a0, a1, a3, a4, a5, a6, E⟩ := errs_of_laid hL
      obtain ⟨b, off, spot⟩ := a
      have hc0 := hcell 0 (by omega)
      have hspot : spot = none := by simpa [Addr.add] using World.cell?_spot hc0
      subst hspot
      obtain ⟨e, rfl⟩ : ∃ e : Nat, x = (e : Int) := ⟨x.toNat, by omega⟩
      obtain ⟨z, zr, hz⟩ : ∃ z zr, zs.take n = z :: zr := by
        cases hq : zs.take n with
        | nil =>
          have : (zs.take n).length = 0 := by rw [hq]; rfl
          rw [List.length_take] at this
          omega
        | cons z zr => exact ⟨z, zr, rfl⟩
      have hzl : (z :: zr).length = n := by rw [← hz, List.length_take]; omega
      refine law_some b off n c e (e / 100) (e % 100) s z zr a0 a1 a3 a4 a5 a6 w hzl (fun j hj => ?_) (by omega) hnc (by omega) (by omega) (by omega) ?_ E
      · have h1 := hcell j (by omega)
        rw [Addr.add_lit] at h1
        rw [h1, ← hz]
        simp [List.getD_eq_getElem?_getD, List.getElem?_take_of_lt hj]
      · exact (bounds_i64 hs).1

/-- The heap that the program's own initialisers lay meets the row's list. -/
theorem door_met (os : Os) (args : Array Value) : laidMetH Tryd.prog Rows.fnNoProgressRow.laid ((World.doorLaid Tryd.prog 218 os).forCall (fun _ _ => 0) ⟨#[], args, []⟩).memory := by
  rw [MakeChecks.laidMetH_plain _ _ _ (by kernel_rfl)]
  exact laidMet_of_run' 8 (by kernel_rfl) (by kernel_rfl)

set_option maxRecDepth 100000 in
theorem lifted (os : Os) (started : os.Started) (H : Type) (enc : TypeId × Value → H) :
    ReturnsInHanded {} Tryd.checked os 3 .any (fun w args => (Rows.fnNoProgressSpec.pre enc Tryd.prog Tryd.f3 [] false w args ∧ laidMetH Tryd.prog Rows.fnNoProgressRow.laid w) ∧ sizedMet enc Tryd.prog Tryd.f3 (OpenSpec.ofChange Rows.fnNoProgressSpec) false w args)
      (Rows.fnNoProgressSpec.post enc Tryd.prog Tryd.f3 false true false false) := by
  refine returnsInHanded_of_change_and (C := Tryd.checked) (X := fun w _ => laidMetH Tryd.prog Rows.fnNoProgressRow.laid w) (fun _ _ _ hh h => h.of_heap hh) own started (by kernel_rfl) Tryd.func3
    (ChangeSpec.witness_shaped (enc := enc) (C := Tryd.checked) (os := os) (X := fun w _ => laidMetH Tryd.prog Rows.fnNoProgressRow.laid w) false (World.doorLaid Tryd.prog 218 os) #[.slice none 0 0, .int .i64 0, .int .i64 0] 8 rfl (World.shaped_of_RefB (by kernel_rfl) (by kernel_rfl)) (by kernel_rfl) (by kernel_rfl) (by kernel_rfl) (door_met os _)) ?_
  intro W base args ds gs before hval0 hW _ hsz0 hL _
  have hval : ∀ (j : Nat) t v, Tryd.f3.params[j]? = some t → args[j]? = some v → Value.okWide Tryd.prog W .any base t v := hval0
  have hsz : (DataW.weightsEach Tryd.prog (Tryd.f3.params.toList ++ Rows.fnNoProgressSpec.plain.varTypes Tryd.prog) (ds ++ gs)).all (· ≤ reachBytes) = true := hsz0
  have hW' := hW
  obtain ⟨p, q, hA0, hV, rfl, hfz, hnd⟩ := hW
  have hA : DataW.TrodAll enc Tryd.prog W 0 (fun _ => true) true Tryd.f3.params.toList args.toList ds p := hA0
  rw [Tryd.params3] at hA hval hsz
  obtain ⟨v0, vs0, d0, ds0, p0, q0, hargs, rfl, rfl, h0, r0⟩ := trodAll_cons hA
  obtain ⟨v1, vs1, d1, ds1, p1, q1, rfl, rfl, rfl, h1, r1⟩ := trodAll_cons r0
  obtain ⟨v2, vs2, d2, ds2, p2, q2, rfl, rfl, rfl, h2, r2⟩ := trodAll_cons r1
  obtain ⟨rfl, rfl, rfl⟩ := trodAll_nil r2
  obtain rfl : args = #[v0, v1, v2] := by cases args; simp_all
  obtain ⟨gv, tv, csv, fuelv, dv, pv, rfl, hgv, htv, hvar, hdv, rfl⟩ := trodVars_one hV
  obtain rfl := Option.some.inj (gBroken.symm.trans hgv)
  obtain rfl := Option.some.inj (tBroken.symm.trans htv)
  obtain ⟨x, rfl, hxi, rfl, rfl, hcx⟩ := token_of gBroken Tryd.underlying44 hvar hdv
  obtain ⟨a0, len0, cap0, rfl⟩ := okWide_slice Tryd.underlying22 (hval 0 22 v0 rfl rfl)
  have k0 := h0
  have lt0 : ∀ x ∈ p0, x.block < W.heap.size := by obtain ⟨m, hm⟩ := k0; exact DataW.trod_lt m _ _ _ hm
  obtain ⟨a1, rfl, rfl, rfl, w1⟩ := open_int Tryd.underlying3 (hval 1 3 v1 rfl rfl) h1
  obtain ⟨a2, rfl, rfl, rfl, w2⟩ := open_int Tryd.underlying3 (hval 2 3 v2 rfl rfl) h2
  obtain ⟨z0, hd0⟩ : ∃ zs : List Int, len0 = 0 ∨ ∃ a, a0 = some a ∧ len0 ≤ cap0 ∧ zs.length = cap0 ∧ cap0 ≤ 140737488351232 ∧ ∀ i, i < zs.length → W.cell? (a.add i) = some (.int .u8 (zs.getD i 0)) := by
    obtain ⟨fuel, hf⟩ := h0
    rcases open_ints Tryd.underlying22 Tryd.underlying5 cells5 hf with ⟨hcs, _⟩ | ⟨ad, l, c, zs, hcs, _, hl, hm, hz, hxx, hcell, hwz⟩
    · simp [Value.cells] at hcs
      exact ⟨[], .inl hcs.2.1⟩
    · simp [Value.cells] at hcs
      obtain ⟨rfl, rfl, rfl⟩ := hcs
      simp only [Prod.mk.injEq] at hxx
      obtain ⟨rfl, rfl⟩ := hxx
      have hw := sized_slice hsz (j := 0) (t := 22) (e := 5) rfl rfl Tryd.underlying22
      rw [bytes5] at hw
      have hz' : zs.length = cap0 := by simpa using hz
      simp only [lits, List.length_map, List.length_take, List.length_drop, reachBytes] at hw
      exact ⟨zs, .inr ⟨_, rfl, hl, hz', by omega, hcell⟩⟩
  clear hA0 hval0
  refine (walk a0 len0 cap0 a1 a2 W z0 w1 w2 hd0 hL).mono fun e W' ⟨he, bel⟩ => ?_
  subst he
  have hg1 : 1 < W.heap.size := World.block_lt_of_cell? W _ hcx
  exact ⟨_, rfl, _, _, _, [], _, [.cell 1 0], hW', trodAll_mk1 (shut_bool Tryd.underlying4 _), (trodAll_cons_mk (Below.trod laidOut (by kernel_rfl) (of_decide_eq_true (by kernel_rfl)) k0 bel lt0) (trodAll_cons_mk (shut_int Tryd.underlying3 w1) (trodAll_cons_mk (shut_int Tryd.underlying3 w2) trodAll_mk0))), vars_read1 enc gBroken tBroken Tryd.underlying44 (var?_below bel gBroken hg1 hvar) hxi _, bel.frame _, fun h => by cases h⟩

theorem said : Rows.FnNoProgressSaid :=
  OpenClaim.holds_of_wide 3 Tryd.f3 rfl rfl rfl rfl rfl rfl rfl ⟨rfl, rfl, rfl, rfl, rfl⟩ rfl rfl rfl rfl rfl (by kernel_rfl) Tryd.func3 (by kernel_rfl)
    (of_decide_eq_true (by kernel_rfl)) (by unfold Func.isWrapper; first | (rw [if_pos (by decide +kernel)]; kernel_rfl) | (rw [if_neg (by decide +kernel)]; exact ⟨rfl, rfl⟩))
    (fun os started H enc _ => lifted os started H enc)
#print axioms said
end Go.Proofs.YtbgejedfdhnfpaaDoor
