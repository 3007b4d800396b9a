/-
  The contracts of (*impl.source).Read: at a piece of no bytes, and behind the last piece.
-/
import Derived.Test.YtbgejedfdhnfpaaDoorCode
import Derived.RegionTactic
import Derived.Deep.RegionLaw
import Derived.Deep.RegionWith
import Derived.OwnWalk
namespace Go.Proofs.YtbgejedfdhnfpaaDoor
open Go.RowKit

/-- The cells of an impl.source that is not glued. -/
def srcC (L P e : Value) (g : Int) : Array Value := #[L, P, e, .bool false, .int .i64 g]

theorem Tryd.size5 : (Tryd.prog.info? 5).map (·.size) = some 1 := by kernel_rfl

set_option maxHeartbeats 800000 in
theorem src_zero (S lb lo n lc Q o np pc pb po m c : Nat) (e : Value) (g : Int) (w : World) (h : Blk w S 46 (srcC (.slice (some ⟨lb, lo, none⟩) n lc) (.slice (some ⟨Q, o, none⟩) np pc) e g))
    (hn : 0 < n) (hnl : n ≤ lc) (_hlc : lc ≤ 9223372036854775807) (hnp : 0 < np) (hpc : np ≤ pc) (hpm : pc ≤ 9223372036854775807) (hz : w.cell? ⟨Q, o, none⟩ = some (.int .i64 0)) (hm : 0 < m) (hmc : m ≤ c) (_hcm : c ≤ 9223372036854775807) (hg : 0 ≤ g) (hg' : g ≤ 9223372036854775807) :
    Calls Tryd.prog 48 #[.pointer (some ⟨S, 0, none⟩), .slice (some ⟨pb, po, none⟩) m c] w fun r w' => r = .returned (.tuple #[.int .i64 0, .nilIface]) ∧
      Blk w' S 46 (srcC (.slice (some ⟨lb, lo, none⟩) n lc) (.slice (some ⟨Q, if pc = 1 then o else o + 1, none⟩) (np - 1) (pc - 1)) e g) ∧ Kept [S] w w' := by
  have c0 : w.cell? ⟨S, 0, none⟩ = some (.slice (some ⟨lb, lo, none⟩) n lc) := h.cell 0
  have c1 : w.cell? ⟨S, 1, none⟩ = some (.slice (some ⟨Q, o, none⟩) np pc) := h.cell 1
  have c3 : w.cell? ⟨S, 3, none⟩ = some (.bool false) := h.cell 3
  have c4 : w.cell? ⟨S, 4, none⟩ = some (.int .i64 g) := h.cell 4
  have f0 := h.frozen 0
  have f1 := h.frozen 1
  have f4 := h.frozen 4
  have H := Lib.hid h
  clear h
  have hcp := fun (W : World) (ty : TypeId) (d a : Option Addr) (dc sl sc : Nat) => run_copy_none (P := Tryd.prog) W 22 22 ty 5 d a 0 dc sl sc Tryd.underlying22 Tryd.size5 (by simp)
  by_cases hp1 : pc = 1
  · subst hp1
    obtain rfl : np = 1 := by omega
    go_enter Tryd.func48, Tryd.ntmps48
    go_wp2
    go_quiet (fail)
    go_wp2
    go_ret2
    exact ⟨rfl, (((H.out.set_ 1 _).drewN _).set_ 0 _).set_ 4 _, ((((Kept.refl _ _).setCell (by simp) _).drewN _).setCell (by simp) _).setCell (by simp) _⟩
  · rw [if_neg hp1]
    go_enter Tryd.func48, Tryd.ntmps48
    go_wp2
    go_quiet (fail)
    go_wp2
    go_ret2
    exact ⟨rfl, (((H.out.set_ 1 _).drewN _).set_ 0 _).set_ 4 _, ((((Kept.refl _ _).setCell (by simp) _).drewN _).setCell (by simp) _).setCell (by simp) _⟩

/-- A copy into a known row, as one step of a region that draws its order. -/
theorem step_copy_kept {P : Program} {ops : Array Oper} {o : Oper} {a : Act} {w : World} {K : Act → World → Prop} {Q : Exit → Act → World → Prop} {E : Prop} (hgd : o.guard = none) (d s : Operand) (dT sT : TypeId)
    (ho : o.op = .call { callee := .builtin .copy, args := #[d, s], argTypes := #[dT, sT] }) (elem : TypeId) (hu : P.underlying dT = some (.slice elem)) (hsz : (P.info? elem).map (·.size) = some 1)
    (g off dLen dCap : Nat) (ad : Addr) (sLen sCap : Nat) (hd : a.eval d = .slice (some ⟨g, off, none⟩) dLen dCap) (hs : a.eval s = .slice (some ad) sLen sCap)
    (cur : Array Value) (t : TypeId) (hg : w.heap[g]? = some (.cells cur t (0, 0))) (cs : List Value) (k : Nat) (hk : cs.length = k) (hn : cs.length = Nat.min sLen dLen)
    (hsrc : ∀ j v, cs[j]? = some v → w.cell? (ad.add j) = some v) (hfit : off + cs.length ≤ cur.size) (h1 : ∀ v ∈ cs, v.oneCell' = true)
    (h : ∀ w', Hid (Blk w' g t (cur.toList.take off ++ cs ++ cur.toList.drop (off + cs.length)).toArray) → Hid (Kept [g] w w') → K (a.put o.dst (goInt k)) w') :
    if Region.wanted o (yielded ops a.tmps) = true then Oper.wp P o a w K Q else E := by
  have hw : Region.wanted o (yielded ops a.tmps) = true := by simp [Region.wanted, hgd]
  rw [if_pos hw]
  have hrun := run_copy_row (P := P) w dT sT o.type elem g off dLen dCap ad sLen sCap cur t cs hu hsz hg hn hsrc hfit h1
  unfold Oper.wp
  simp only [execOp, ho, resolve, invoke, builtin, Sem.run_bind, Sem.run_pure, Result.andThen_ok, List.map_toArray, List.map_cons, List.map_nil, hd, hs, hrun]
  rw [hk]
  rw [hk] at h
  exact h _ (setRow_heap w g cur _ t _ hg) ⟨rfl, rfl, rfl, by simp [World.setRow], fun k _ hk => setRow_other w g k _ (by simpa using hk)⟩

set_option maxHeartbeats 800000 in
theorem src_all (S lb lo n lc pc Bf m k : Nat) (PA : Option Addr) (e : Value) (g : Int) (zs : List Value) (cur : Array Value) (w : World) (h : Blk w S 46 (srcC (.slice (some ⟨lb, lo, none⟩) n lc) (.slice PA 0 pc) e g))
    (hb : Blk w Bf 5 cur) (hcm : cur.size = m) (hSB : S ≠ Bf) (hk : k = min n m)
    (hn : 0 < n) (hnl : n ≤ lc) (hlc : lc ≤ 9223372036854775807) (hm : 0 < m) (hmm : m ≤ 9223372036854775807) (hg : 0 ≤ g) (hg' : g ≤ 4611686018427387903) (hn' : n ≤ 4611686018427387903)
    (hz : zs.length = n) (hzc : ∀ j u, zs[j]? = some u → w.cell? ⟨lb, lo + j, none⟩ = some u) (hz1 : ∀ u ∈ zs, u.oneCell' = true) :
    Calls Tryd.prog 48 #[.pointer (some ⟨S, 0, none⟩), .slice (some ⟨Bf, 0, none⟩) m m] w fun r w' => r = .returned (.tuple #[.int .i64 k, .nilIface]) ∧
      (∃ L', Blk w' S 46 (srcC L' (.slice PA 0 pc) e (g + k))) ∧ Blk w' Bf 5 (zs.take m ++ cur.toList.drop k).toArray ∧ Kept [S, Bf] w w' := by
  have c0 : w.cell? ⟨S, 0, none⟩ = some (.slice (some ⟨lb, lo, none⟩) n lc) := h.cell 0
  have c1 : w.cell? ⟨S, 1, none⟩ = some (.slice PA 0 pc) := h.cell 1
  have f0 := h.frozen 0
  have f4 := h.frozen 4
  have H := Lib.hid h
  have HB := Lib.hid hb
  have HZ := Lib.hid hz
  have HC := Lib.hid hzc
  have HM := Lib.hid hcm
  have hkn : k ≤ n := by omega
  have hk0 : 0 < k := by omega
  have hkl : k ≤ lc := by omega
  have Q0 : Hid ((zs.take m).length = k) := by
    show (zs.take m).length = k
    rw [List.length_take]; omega
  have Q1 : Hid ((zs.take m).length = Nat.min n m) := by
    show (zs.take m).length = min n m
    rw [List.length_take]; omega
  clear h hb hz hzc hcm hk
  have Q2 : Hid (∀ j v, (zs.take m)[j]? = some v → w.drew.cell? ((⟨lb, lo, none⟩ : Addr).add j) = some v) := by
    intro j v hj
    have hlt : j < m := by
      rcases Nat.lt_or_ge j m with h | h
      · exact h
      · rw [List.getElem?_eq_none (by rw [List.length_take]; omega)] at hj; cases hj
    rw [List.getElem?_take_of_lt hlt] at hj
    have := HC.out j v hj
    unfold Addr.add
    split
    · subst_vars; exact this
    · exact this
  have Q3 : Hid (0 + (zs.take m).length ≤ cur.size) := by
    show 0 + (zs.take m).length ≤ cur.size
    rw [HM.out, List.length_take]; omega
  have Q4 : Hid (∀ u ∈ zs.take m, u.oneCell' = true) := fun u hu => hz1 u (List.mem_of_mem_take hu)
  clear hz1
  have hlk : (n = k ∧ lc = k) ∨ lc ≠ k := by omega
  rcases hlk with ⟨rfl, rfl⟩ | hlk
  all_goals
    go_enter Tryd.func48, Tryd.ntmps48
    go_wp2
    go_region_law (refine step_copy_kept rfl (.tmp 45) (.tmp 49) 22 22 rfl 5 Tryd.underlying22 Tryd.size5 Bf 0 m m ⟨lb, lo, none⟩ _ _ rfl rfl cur 5 HB.out.drew (zs.take m) _ Q0.out Q1.out Q2.out Q3.out Q4.out ?_; intro w1 hB1 hK1)
    have hS := H.out.drew.kept hK1.out (by simpa using hSB)
    have d0 : w1.cell? ⟨S, 0, none⟩ = some (.slice (some ⟨lb, lo, none⟩) _ _) := hS.cell 0
    have d3 : w1.cell? ⟨S, 3, none⟩ = some (.bool false) := hS.cell 3
    have d4 : w1.cell? ⟨S, 4, none⟩ = some (.int .i64 g) := hS.cell 4
    have k0 := hS.frozen 0
    have k4 := hS.frozen 4
    have HS := Lib.hid hS
    clear hS c0 c1 f0 f4
    go_wp2
    go_ret2
    refine ⟨rfl, ⟨_, (HS.out.set_ 0 _).set_ 4 _⟩, ?_, ?_⟩
    · have hx := hB1.out
      rw [Q0.out] at hx
      simp only [List.take_zero, List.nil_append, Nat.zero_add] at hx
      exact (hx.far (p := ⟨S, 0, none⟩) (Ne.symm hSB) _).far (p := ⟨S, 4, none⟩) (Ne.symm hSB) _
    · exact ((((Kept.refl _ _).drew).trans (hK1.out.mono (by simp))).setCell (by simp) _).setCell (by simp) _
end Go.Proofs.YtbgejedfdhnfpaaDoor
