/-
  The contract of impl.run: the calls of a script of ReadByte, over a source that has rem + 100 q pieces of no bytes ahead of its data.
-/
import Derived.Test.YtbgejedfdhnfpaaDoorCalled
namespace Go.Proofs.YtbgejedfdhnfpaaDoor
open Go.RowKit

/-- The Out of a call that made no progress. -/
def outN : List Value := [.slice none 0 0, .int .i64 0, .bool false, .int .i64 6, .int .i64 0, .int .i64 0]
/-- The Out of the call that read the first byte. -/
def outL (g j : Nat) : List Value := [.slice (some ⟨g, 0, none⟩) 1 1, .int .i64 1, .bool false, .int .i64 0, .int .i64 (j - 1 : Int), .int .i64 j]

/-- k Outs without progress. -/
def outsN (k : Nat) : List Value := (List.replicate k outN).flatten

theorem outsN_succ (k : Nat) : outsN (k + 1) = outsN k ++ outN := by
  unfold outsN
  rw [List.replicate_succ', List.flatten_append]
  simp

theorem own_kept {w w' : World} {D : List Nat} {base : Nat} {e : TypeId} {size : Nat} {v : Value} {n : Nat} {xs : List Value} (h : w.ownsRow base e size v n xs) (hk : Kept D w w') (hD : ∀ k, k ∈ D → k < base) : w'.ownsRow base e size v n xs := by
  obtain ⟨h1, h2⟩ := h
  refine ⟨h1, ?_⟩
  rcases h2 with h2 | ⟨g, cap, cur, hv, hg, hh, r⟩
  · exact Or.inl h2
  · exact Or.inr ⟨g, cap, cur, hv, hg, Blk.kept (w := w) hh hk (fun hm => by have := hD g hm; omega), r⟩

/-- The state of the script behind k calls. -/
def RunAt (w wr : World) (base R S Bf m q rem : Nat) (z : Int) (rest : List Value) (e : Value) (cur : Array Value) (v : Value) (k : Nat) : Prop :=
  ((k ≤ q ∧ wr.ownsRow base 34 6 v k (outsN k) ∧ (∃ lb lr, Blk wr R 53 (rdr (.slice (some ⟨Bf, 0, none⟩) m m) (rdV S) 0 0 .nilIface lb lr)) ∧ Src wr S (rem + 100 * (q - k)) (.int .u8 z :: rest) e ∧ Blk wr Bf 5 cur) ∨
   (k = q + 1 ∧ ∃ g j, Blk wr g 5 #[.int .u8 z] ∧ wr.ownsRow base 34 6 v (q + 1) (outsN q ++ outL g j))) ∧ Kept [S, R, Bf] w wr

theorem Tryd.info34 : (Tryd.prog.info? 34).map (fun i => (i.zero, i.size, i.bytes)) = some (some (.agg #[.slice none 0 0, .int .i64 0, .bool false, .int .i64 0, .int .i64 0, .int .i64 0]), 6, 64) := by kernel_rfl

set_option maxHeartbeats 1600000 in
set_option maxRecDepth 100000 in
theorem run_any {B : Nat} (R S Bf m q rem C cc : Nat) (lb lr z : Int) (rest : List Value) (e : Value) (cur : Array Value) (a0 a1 a3 a4 a5 a6 : Addr) (w : World)
    (hR : Blk w R 53 (rdr (.slice (some ⟨Bf, 0, none⟩) m m) (rdV S) 0 0 .nilIface lb lr)) (hS : Src w S (rem + 100 * q) (.int .u8 z :: rest) e) (hB : Blk w Bf 5 cur) (hcm : cur.size = m)
    (hrem : rem < 100) (hq : q ≤ 20) (hSR : S < R) (hRB : R < Bf) (E : Errs B w a0 a1 a3 a4 a5 a6) (hBS : B ≤ S) (hm : 0 < m) (hm' : m ≤ 4096)
    (hC : C < w.heap.size) (hCS : C ≠ S) (hCR : C ≠ R) (hCB : C ≠ Bf) (hcc : q + 1 ≤ cc)
    (hcs : ∀ k, k < q + 1 → w.cell? ⟨C, k * 3, none⟩ = some (.int .i64 1) ∧ w.cell? ⟨C, k * 3 + 1, none⟩ = some (.int .i64 0) ∧ w.cell? ⟨C, k * 3 + 2, none⟩ = some (.int .u8 0)) :
    Calls Tryd.prog 9 #[.pointer (some ⟨R, 0, none⟩), .pointer (some ⟨S, 0, none⟩), .slice (some ⟨C, 0, none⟩) (q + 1) cc] w fun r w' => ∃ v g j, r = .returned v ∧ Blk w' g 5 #[.int .u8 z] ∧ w'.ownsRow w.heap.size 34 6 v (q + 1) (outsN q ++ outL g j) ∧ Kept [S, R, Bf] w w' := by
  have hsz := hB.lt
  have HR := Lib.hid hR
  have HS := Lib.hid hS
  have HB := Lib.hid hB
  have HC := Lib.hid hcm
  have HE := Lib.hid E
  have HCS := Lib.hid hcs
  obtain ⟨i0, hi0, hz0, hz1, hz2⟩ := info_parts Tryd.info34
  clear hR hS hB hcm E hcs
  go_enter Tryd.func9, Tryd.ntmps9
  go_wp2_with fail
  go_loopg [7, 14] (q + 1) (fun gk v i wr => ∃ k : Nat, k + gk = q + 1 ∧ i = .int .i64 k ∧ Hid (RunAt w wr w.heap.size R S Bf m q rem z rest e cur v k))
  case atStart =>
    have hK0 : Kept [S, R, Bf] w (w.alloc (.cells #[] 34)) := (Kept.refl _ _).alloc _
    exact ⟨0, by omega, rfl, ⟨Or.inl ⟨by omega, World.ownsRow_made w #[] 0 (Nat.le_refl _) (by unfold maxLen; omega) rfl, ⟨lb, lr, HR.out.alloc _⟩, HS.out.kept (D := []) ((Kept.refl _ _).alloc _) (by simp), HB.out.alloc _⟩, hK0⟩⟩
  case round =>
    obtain ⟨k, hk, rfl, hA⟩ := hrel
    by_cases hlt : k < q + 1
    · have hA1 := hA.out
      rcases hA1 with ⟨⟨hkq, hown, ⟨lb', lr', hRr⟩, hSr, hBr⟩ | ⟨hk', _⟩, hKr⟩
      · have hcell := HCS.out k hlt
        have x0 := (hKr.cell (p := ⟨C, k * 3, none⟩) hC (by simp [hCS, hCR, hCB])).trans hcell.1
        have x1 := (hKr.cell (p := ⟨C, k * 3 + 1, none⟩) hC (by simp [hCS, hCR, hCB])).trans hcell.2.1
        have x2 := (hKr.cell (p := ⟨C, k * 3 + 2, none⟩) hC (by simp [hCS, hCR, hCB])).trans hcell.2.2
        have HO := Lib.hid hown
        have HRr := Lib.hid hRr
        have HSr := Lib.hid hSr
        have HBr := Lib.hid hBr
        have HKr := Lib.hid hKr
        clear hcell hown hRr hSr hBr hKr hA
        have hszr := HKr.out.size
        have hRl := HR.out.lt
        by_cases hkq' : k < q
        · have hSq : Hid (Src wr S (rem + 100 * (q - (k + 1)) + 100) (.int .u8 z :: rest) e) := by
            have := HSr.out
            rw [show rem + 100 * (q - k) = rem + 100 * (q - (k + 1)) + 100 by omega] at this
            exact this
          go_wp2_with fail
          refine (called_np R S Bf m (rem + 100 * (q - (k + 1))) lb' lr' _ e a0 a1 a3 a4 a5 a6 _ (HRr.out.alloc _) (hSq.out.kept (D := []) ((Kept.refl _ _).alloc _) (by simp)) hSR (HE.out.below (((HKr.out.below (B := B) (by omega) (by simp; omega))).alloc (by omega) _)) hBS hm hm').mono ?_
          rintro r w1 ⟨rfl, hR1, hS1, hK1⟩
          have hKw : Kept [S, R, Bf] wr w1 := ((Kept.refl _ _).alloc _).trans (hK1.mono (by simp))
          have hB1 := HBr.out.kept (D := [S, R]) (((Kept.refl _ _).alloc _).trans hK1) (by simp; omega)
          obtain ⟨L, lo, lc, PA, pc, hSB, _⟩ := id hS1
          have g4 : w1.cell? ⟨S, 4, none⟩ = some (.int .i64 0) := hSB.cell 4
          have hSl := hSB.lt
          have HR1 := Lib.hid hR1
          have HS1 := Lib.hid hS1
          have HK1 := Lib.hid hK1
          have HKw := Lib.hid hKw
          have HB1 := Lib.hid hB1
          clear hR1 hS1 hK1 hKw hB1 hSB
          go_wp2_with fail
          go_cut [] (fun wx => Hid (Blk wx w1.heap.size 34 #[.slice none 0 0, .int .i64 0, .bool false, .int .i64 6, .int .i64 0, .int .i64 0]) ∧ Hid (Kept [] w1 wx))
          case first =>
            go_region_with (go_at_call 13; refine (buffered_any R _ _ _ 0 0 lb' (-1) _ (HR1.out.alloc _).drew (by omega) (by omega) (by omega)).mono ?_; rintro r w2 ⟨rfl, nq, rfl⟩)
            all_goals (try go_wp2_with fail)
            all_goals go_meet
            all_goals exact ⟨(((Blk.new w1 34 _).drewN _).set_ 4 _).set_ 5 _, ((((Kept.refl _ _).alloc _).drewN _).setNew (p := ⟨w1.heap.size, 4, none⟩) (Nat.le_refl _) _).setNew (p := ⟨w1.heap.size, 5, none⟩) (Nat.le_refl _) _⟩
          case rest =>
            obtain ⟨hO2, hK2⟩ := hcut
            have o0 := hO2.out.cell 0
            have o1 := hO2.out.cell 1
            have o2 := hO2.out.cell 2
            have o3 := hO2.out.cell 3
            have o4 := hO2.out.cell 4
            have o5 := hO2.out.cell 5
            simp at o0 o1 o2 o3 o4 o5
            have hown2 := own_kept (own_kept HO.out HKw.out (by simp; omega)) hK2.out (by simp)
            have HOwn := Lib.hid hown2
            have hsz2 := hO2.out.lt
            clear g4 hown2
            go_wp2_with (at_builtin; refine wpList_append_own _ rfl (.tmp 29) (.tmp 31) 23 rfl w.heap.size 34 i0 _ 6 64 Tryd.underlying23 hi0 hz0 hz1 hz2 rfl (by decide) _ _ _ rfl (HOwn.out.alloc _) ⟨wc.heap.size, 0, none⟩ 1 1 outN rfl rfl ?c1 ?c2 ?c3 ?c4 ?c5 ?_)
            case c1 => exact World.news_of_block (cs := #[.slice none 0 0, .int .i64 0, .bool false, .int .i64 6, .int .i64 0, .int .i64 0]) (t := 34) (fr := (0, 0)) (heap_alloc_new wc _)
            case c2 => simp [outN, Value.oneCell']
            case c3 => unfold maxLen; omega
            case c4 => omega
            case c5 => have := HKw.out.size; have := hK2.out.size; simp; omega
            intro v' w' hown' hgrow _
            have hlow : ∀ i, i ∈ u7.ownBlock.toList → w.heap.size ≤ i := fun i hi => (HOwn.out.lt i (by simpa using hi)).1
            have hK4 : Kept u7.ownBlock.toList w1 w' := ((hK2.out.mono (by simp)).alloc _).grown hgrow (fun i hi => Or.inl (by simp [hi]))
            have hRw : Hid (RunAt w w' w.heap.size R S Bf m q rem z rest e cur v' (k + 1)) := by
              refine ⟨Or.inl ⟨by omega, by rw [outsN_succ]; exact hown', ⟨lb', -1, HR1.out.kept hK4 (fun hm => by have := hlow _ hm; omega)⟩, HS1.out.kept hK4 (fun i hm => by have := hlow _ hm; omega), HB1.out.kept hK4 (fun hm => by have := hlow _ hm; omega)⟩, ?_⟩
              exact (HKr.out.trans HKw.out).more hK4 (fun i hm => Or.inr (hlow i hm))
            clear hown' hgrow hlow hK4 o0 o1 o2 o3 o4 o5
            go_wp2
            go_roundg (gk - 1)
            case measure => omega
            case rel => exact ⟨k + 1, by omega, by go_num, hRw⟩
        · obtain rfl : k = q := by omega
          have hSq : Hid (Src wr S rem (.int .u8 z :: rest) e) := by
            have := HSr.out
            rw [show rem + 100 * (k - k) = rem by omega] at this
            exact this
          go_wp2_with fail
          refine (called_some R S Bf m rem lb' lr' z rest e cur _ (HRr.out.alloc _) (hSq.out.kept (D := []) ((Kept.refl _ _).alloc _) (by simp)) hrem (HBr.out.alloc _) HC.out hSR hRB hm hm').mono ?_
          rintro r w1 ⟨g, rfl, hg, hgl, ⟨j, l, hj0, hjm, hR1, L, P', hSB⟩, hK1⟩
          have hKw : Kept [S, R, Bf] wr w1 := ((Kept.refl _ _).alloc _).trans hK1
          have g4 : w1.cell? ⟨S, 4, none⟩ = some (.int .i64 j) := hSB.cell 4
          have hSl := hSB.lt
          have hgl1 := hg.lt
          simp at hgl
          have HG := Lib.hid hg
          have HR1 := Lib.hid hR1
          have HK1 := Lib.hid hK1
          have HKw := Lib.hid hKw
          clear hR1 hK1 hKw hSB hg
          go_wp2_with fail
          go_cut [] (fun wx => Hid (Blk wx w1.heap.size 34 #[.slice (some ⟨g, 0, none⟩) 1 1, .int .i64 1, .bool false, .int .i64 0, .int .i64 ((j : Int) - 1), .int .i64 j]) ∧ Hid (Kept [] w1 wx))
          case first =>
            go_region_with (go_at_call 13; refine (buffered_any R _ _ _ 1 j l (-1) _ (HR1.out.alloc _).drew (by omega) (by omega) (by omega)).mono ?_; rintro r w2 ⟨rfl, nq, rfl⟩)
            all_goals (try go_wp2_with fail)
            all_goals go_meet
            all_goals exact ⟨(((Blk.new w1 34 _).drewN _).set_ 4 _).set_ 5 _, ((((Kept.refl _ _).alloc _).drewN _).setNew (p := ⟨w1.heap.size, 4, none⟩) (Nat.le_refl _) _).setNew (p := ⟨w1.heap.size, 5, none⟩) (Nat.le_refl _) _⟩
          case rest =>
            obtain ⟨hO2, hK2⟩ := hcut
            have o0 := hO2.out.cell 0
            have o1 := hO2.out.cell 1
            have o2 := hO2.out.cell 2
            have o3 := hO2.out.cell 3
            have o4 := hO2.out.cell 4
            have o5 := hO2.out.cell 5
            simp at o0 o1 o2 o3 o4 o5
            have hown2 := own_kept (own_kept HO.out HKw.out (by simp; omega)) hK2.out (by simp)
            have HOwn := Lib.hid hown2
            have hsz2 := hO2.out.lt
            clear g4 hown2
            go_wp2_with (at_builtin; refine wpList_append_own _ rfl (.tmp 29) (.tmp 31) 23 rfl w.heap.size 34 i0 _ 6 64 Tryd.underlying23 hi0 hz0 hz1 hz2 rfl (by decide) _ _ _ rfl (HOwn.out.alloc _) ⟨wc.heap.size, 0, none⟩ 1 1 (outL g j) rfl rfl ?c1 ?c2 ?c3 ?c4 ?c5 ?_)
            case c1 => exact World.news_of_block (cs := #[.slice (some ⟨g, 0, none⟩) 1 1, .int .i64 1, .bool false, .int .i64 0, .int .i64 ((j : Int) - 1), .int .i64 j]) (t := 34) (fr := (0, 0)) (heap_alloc_new wc _)
            case c2 => simp [outL, Value.oneCell']
            case c3 => unfold maxLen; omega
            case c4 => omega
            case c5 => have := HKw.out.size; have := hK2.out.size; simp; omega
            intro v' w' hown' hgrow _
            have hlow : ∀ i, i ∈ u7.ownBlock.toList → w.heap.size ≤ i := fun i hi => (HOwn.out.lt i (by simpa using hi)).1
            have hK4 : Kept u7.ownBlock.toList w1 w' := ((hK2.out.mono (by simp)).alloc _).grown hgrow (fun i hi => Or.inl (by simp [hi]))
            have hgu : g ∉ u7.ownBlock.toList := fun hm => by
              have := (HO.out.lt g (by simpa using hm)).2
              omega
            have hRw : Hid (RunAt w w' w.heap.size R S Bf m k rem z rest e cur v' (k + 1)) := by
              refine ⟨Or.inr ⟨rfl, g, j, HG.out.kept hK4 hgu, hown'⟩, ?_⟩
              exact (HKr.out.trans HKw.out).more hK4 (fun i hm => Or.inr (hlow i hm))
            clear hown' hgrow hlow hK4 o0 o1 o2 o3 o4 o5
            go_wp2
            go_roundg (gk - 1)
            case measure => omega
            case rel => exact ⟨k + 1, by omega, by go_num, hRw⟩
      · omega
    · have hA1 := hA.out
      rcases hA1 with ⟨⟨hkq, _⟩ | ⟨hk', g, j, hg, hown⟩, hKr⟩
      · omega
      · have HG := Lib.hid hg
        have HO := Lib.hid hown
        have HKr := Lib.hid hKr
        clear hA hg hown hKr
        go_wp2
        go_ret
        exact ⟨_, g, j, rfl, HG.out, HO.out, HKr.out⟩
end Go.Proofs.YtbgejedfdhnfpaaDoor
