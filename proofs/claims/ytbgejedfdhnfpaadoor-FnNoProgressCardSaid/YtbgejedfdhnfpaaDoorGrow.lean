/-
  append to an empty slice without room, whatever it points to: the law, and as one step of a region that draws its order.
-/
import Derived.Test.YtbgejedfdhnfpaaDoorWords
import Derived.Deep.RegionLaw
namespace Go.Proofs.YtbgejedfdhnfpaaDoor
open Go.RowKit

theorem run_append_empty {P : Program} (w : World) (t ty e : TypeId) (i : TypeInfo) (z : Value) (bytes : Nat) (ht : P.underlying t = some (.slice e)) (hi : P.info? e = some i) (hz : i.zero = some z)
    (hsize : i.size = 1) (hby : i.bytes = bytes) (d : Addr) (B : Nat) (A : Option Addr) (m c : Nat) (news : List Value) (hr : Reads w B 1 A m news) (h63 : m ≤ maxLen) (hbytes : m * bytes ≤ 140737488355328) :
    ∃ A' c' w', (Builtin.append_ #[t, t] ty #[.slice (some d) 0 0, .slice A m c]).run P w = .ok (.slice A' m c') w' ∧ (0 < m → A' = some ⟨w.heap.size, 0, none⟩) ∧ m ≤ c' ∧ c' ≤ maxLen ∧ Reads w' w'.heap.size 1 A' m news ∧ w.grownBy w' none := by
  subst hby
  by_cases hm : m = 0
  · subst hm
    have hn : news = [] := List.eq_nil_of_length_eq_zero (by simpa using hr.1)
    subst hn
    refine ⟨some d, 0, w, ?_, fun h => by omega, Nat.le_refl _, by unfold maxLen; omega, Reads.none_, World.grownBy.refl w _⟩
    cases A <;> simp [Builtin.append_, run_underlying ht, sizeOf, typeInfo, hi, Builtin.lenOf, Builtin.firstCells, storeCells, loadCells, loadCellsFrom]
  · obtain ⟨ad, rfl, _, hc⟩ := hr.2 (by omega)
    have h63' : ((0 + m : Nat) : Int) ≤ 9223372036854775807 := by unfold maxLen at h63; omega
    have hrun := run_append_grow (P := P) w t ty e i z ht hi hz d 0 0 [] (by simp) (by simp) ad m c news (by rw [hsize]; exact hr.1) hc (by omega) h63' (growslice_fits (by omega) (by simpa using hbytes))
    simp only [Nat.zero_add, Array.empty_append] at hrun
    refine ⟨_, _, _, hrun, fun _ => rfl, grownCap_ge w m 0 e, grownCap_le_maxLen w m 0 e h63, ⟨hr.1, fun _ => ⟨⟨w.heap.size, 0, none⟩, rfl, by simp, fun j u hu => ?_⟩⟩, ⟨rfl, rfl, rfl, by simp, fun k hk _ => heap_alloc_old w.drew _ k hk⟩⟩
    refine World.news_of_block (heap_alloc_new w.drew _) j u ?_
    have hj : j < news.length := by
      rcases Nat.lt_or_ge j news.length with h | h
      · exact h
      · rw [List.getElem?_eq_none h] at hu; cases hu
    simp only [Array.toList_append]
    rw [List.getElem?_append_left (by simpa using hj)]
    exact hu

theorem step_append_empty {P : Program} {ops : Array Oper} {o : Oper} {a : Act} {w : World} {K : Act → World → Prop} {Q : Exit → Act → World → Prop} {E : Prop} (hgd : o.guard = none) (s x : Operand) (t : TypeId)
    (ho : o.op = .call { callee := .builtin .append, args := #[s, x], argTypes := #[t, t] }) (e : TypeId) (i : TypeInfo) (z : Value) (bytes : Nat) (ht : P.underlying t = some (.slice e)) (hi : P.info? e = some i) (hz : i.zero = some z)
    (hsize : i.size = 1) (hby : i.bytes = bytes) (d : Addr) (hs : a.eval s = .slice (some d) 0 0) (B : Nat) (A : Option Addr) (m c : Nat) (news : List Value) (hx : a.eval x = .slice A m c) (hr : Reads w B 1 A m news) (h63 : m ≤ maxLen) (hbytes : m * bytes ≤ 140737488355328)
    (h : ∀ A' c' w', Hid ((0 < m → ∃ g, A' = some ⟨g, 0, none⟩) ∧ m ≤ c' ∧ c' ≤ maxLen ∧ Reads w' w'.heap.size 1 A' m news) → Hid (w.grownBy w' none) → K (a.put o.dst (.slice A' m c')) w') :
    if Region.wanted o (yielded ops a.tmps) = true then Oper.wp P o a w K Q else E := by
  have hw : Region.wanted o (yielded ops a.tmps) = true := by simp [Region.wanted, hgd]
  rw [if_pos hw]
  obtain ⟨A', c', w', hrun, h1, h2, h3, h4, h5⟩ := run_append_empty (P := P) w t o.type e i z bytes ht hi hz hsize hby d B A m c news hr h63 hbytes
  unfold Oper.wp
  simp only [execOp, ho, resolve, invoke, builtin, Sem.run_bind, Sem.run_pure, Result.andThen_ok, List.map_toArray, List.map_cons, List.map_nil, hs, hx, hrun]
  exact h A' c' w' ⟨fun hm => ⟨_, h1 hm⟩, h2, h3, h4⟩ h5
end Go.Proofs.YtbgejedfdhnfpaaDoor
