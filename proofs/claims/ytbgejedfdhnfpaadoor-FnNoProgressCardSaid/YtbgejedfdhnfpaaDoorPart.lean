/-
  The contracts of spec.Part (a copy of a whole list of bytes), laws.source and laws.repeated.
-/
import Derived.Test.YtbgejedfdhnfpaaDoorNew
namespace Go.Proofs.YtbgejedfdhnfpaaDoor
open Go.RowKit

theorem own_slice {w : World} {base : Nat} {e : TypeId} {size : Nat} {v : Value} {n : Nat} {xs : List Value} (h : w.ownsRow base e size v n xs) : ∃ A c, v = .slice A n c := by
  rcases h.2 with ⟨rfl, rfl⟩ | ⟨g, cap, cur, rfl, _⟩
  · exact ⟨_, _, rfl⟩
  · exact ⟨_, _, rfl⟩
theorem own_mono {w : World} {base base' : Nat} {e : TypeId} {size : Nat} {v : Value} {n : Nat} {xs : List Value} (h : w.ownsRow base e size v n xs) (hb : base' ≤ base) : w.ownsRow base' e size v n xs := by
  refine ⟨h.1, ?_⟩
  rcases h.2 with h2 | ⟨g, cap, cur, hv, hg, r⟩
  · exact Or.inl h2
  · exact Or.inr ⟨g, cap, cur, hv, by omega, r⟩

/-- Bytes as values. -/
def bs (zs : List Int) : List Value := zs.map (Value.int .u8)
theorem bs_len (zs : List Int) : (bs zs).length = zs.length := by simp [bs]
theorem bs_snoc (zs : List Int) (k : Nat) (h : k < zs.length) : bs (zs.take (k + 1)) = bs (zs.take k) ++ [.int .u8 (zs.getD k 0)] := by
  unfold bs
  rw [List.take_succ_eq_append_getElem h, List.map_append, List.getD_eq_getElem?_getD, List.getElem?_eq_getElem h]
  rfl
theorem bs_one (zs : List Int) : ∀ u ∈ bs zs, u.oneCell' = true := by
  intro u hu
  obtain ⟨z, _, rfl⟩ := List.mem_map.1 hu
  rfl

set_option maxHeartbeats 800000 in
theorem part_all (b off n c : Nat) (zs : List Int) (w : World) (hl : zs.length = n) (hc : ∀ j, j < n → w.cell? ⟨b, off + j, none⟩ = some (.int .u8 (zs.getD j 0))) (hb : b < w.heap.size) (hn : n ≤ 140737488351232) (hcap : n ≤ c) :
    Calls Tryd.prog 11 #[.slice (some ⟨b, off, none⟩) n c, .int .i64 0, .int .i64 n] w fun r w' => ∃ A c', r = .returned (.slice A n c') ∧ w'.ownsRow w.heap.size 5 1 (.slice A n c') n (bs zs) ∧ Below w.heap.size w w' := by
  obtain ⟨i0, hi0, hz0, hz1, hz2⟩ := info_parts Tryd.info5
  have HL := Lib.hid hl
  have HC := Lib.hid hc
  clear hl hc
  go_enter Tryd.func11, Tryd.ntmps11
  go_wp2_with fail
  go_loopw [7, 8] (fun v i wr => ∃ k : Nat, k ≤ n ∧ i = .int .i64 k ∧ Hid (wr.ownsRow w.heap.size 5 1 v k (bs (zs.take k))) ∧ Hid (Below w.heap.size w wr)) (fun _ i _ => n - (intOf i).toNat)
  case atStart => exact ⟨0, by omega, rfl, World.ownsRow_made w #[] 0 (Nat.le_refl _) (by unfold maxLen; omega) rfl, (Below.refl _ _).alloc (Nat.le_refl _) _⟩
  case round =>
    obtain ⟨k, hk, rfl, hown, hbl⟩ := hrel
    by_cases hlt : k < n
    · have hx := (hbl.out.cell (p := ⟨b, off + k, none⟩) hb).trans (HC.out k hlt)
      have hsz := hbl.out.size
      go_wp2_with (at_builtin; refine wpList_append_own _ rfl (.tmp 16) (.tmp 21) 22 rfl w.heap.size 5 i0 _ 1 1 Tryd.underlying22 hi0 hz0 hz1 hz2 rfl (by decide) _ _ _ rfl (hown.out.alloc _) ⟨wr.heap.size, 0, none⟩ 1 1 [.int .u8 (zs.getD k 0)] rfl rfl ?c1 ?c2 ?c3 ?c4 ?c5 ?_)
      case c1 => exact World.news_of_block (cs := #[.int .u8 (zs.getD k 0)]) (t := 5) (fr := (0, 0)) (heap_alloc_new wr _)
      case c2 => simp [Value.oneCell']
      case c3 => unfold maxLen; omega
      case c4 => omega
      case c5 => simp; omega
      intro v' w1 hown' hgrow _
      have R1 : Hid (w1.ownsRow w.heap.size 5 1 v' (k + 1) (bs (zs.take (k + 1)))) := by
        show w1.ownsRow _ _ _ _ _ _
        rw [bs_snoc zs k (by have := HL.out; omega)]
        exact hown'
      have R2 : Hid (Below w.heap.size w w1) := (hbl.out.alloc hsz _).grown hgrow (by simp; omega) (fun i hi => (hown.out.lt i hi).1)
      clear hown' hgrow hx
      go_wp2
      go_roundw
      case rel => exact ⟨k + 1, by omega, by go_num, R1, R2⟩
      case measure => simp [intOf]; omega
    · obtain rfl : k = n := by omega
      go_wp2
      go_ret
      have hl := HL.out
      have := hown.out
      rw [List.take_of_length_le (by omega)] at this
      obtain ⟨A, c', hv⟩ := own_slice this
      subst hv
      exact ⟨A, c', rfl, this, hbl.out⟩

theorem Tryd.info3 : (Tryd.prog.info? 3).map (fun i => (i.zero, i.size, i.bytes)) = some (some (.int .i64 0), 1, 8) := by kernel_rfl
theorem Tryd.info32 : (Tryd.prog.info? 32).map (fun i => (i.zero, i.size, i.bytes)) = some (some (.agg #[.int .i64 0, .int .i64 0, .int .u8 0]), 3, 24) := by kernel_rfl

/-- np pieces of no bytes. -/
def zp (np : Nat) : List Value := List.replicate np (.int .i64 0)

set_option maxHeartbeats 800000 in
theorem source_all (b off n c Pb np : Nat) (zs : List Int) (w : World) (hl : zs.length = n) (hc : ∀ j, j < n → w.cell? ⟨b, off + j, none⟩ = some (.int .u8 (zs.getD j 0))) (hb : b < w.heap.size) (hn : n ≤ 140737488351232) (hcap : n ≤ c)
    (hp : ∀ j, j < np → w.cell? ⟨Pb, j, none⟩ = some (.int .i64 0)) (hpb : Pb < w.heap.size) (hnp : np ≤ 2000) :
    Calls Tryd.prog 5 #[.slice (some ⟨b, off, none⟩) n c, .slice (some ⟨Pb, 0, none⟩) np np, .bool false, .bool false] w fun r w' => ∃ A1 c1 A2 c2, r = .returned (.agg #[.slice A1 n c1, .slice A2 np c2, .bool false, .bool false]) ∧
      w'.ownsRow w.heap.size 5 1 (.slice A1 n c1) n (bs zs) ∧ w'.ownsRow w.heap.size 3 1 (.slice A2 np c2) np (zp np) ∧ Below w.heap.size w w' := by
  obtain ⟨i0, hi0, hz0, hz1, hz2⟩ := info_parts Tryd.info3
  have HL := Lib.hid hl
  have HC := Lib.hid hc
  have HP := Lib.hid hp
  clear hl hc hp
  go_enter Tryd.func5, Tryd.ntmps5
  go_wp2_with fail
  refine (part_all b off n c zs _ HL.out (fun j hj => (World.cell?_alloc_lt _ _ ⟨b, off + j, none⟩ hb).trans (HC.out j hj)) (by simp; omega) hn hcap).mono ?_
  rintro r w1 ⟨A1, c1, rfl, hown1, hb1⟩
  have hS1 : Blk w1 w.heap.size 27 #[.slice none 0 0, .slice none 0 0, .bool false, .bool false] := (Blk.new w 27 _).below hb1 (by simp)
  have hbw : Below w.heap.size w w1 := ((Below.refl _ _).alloc (Nat.le_refl _) _).trans (hb1.mono (by simp))
  have hsz1 := hS1.lt
  have HS1 := Lib.hid hS1
  have HB := Lib.hid hbw
  have HO1 := Lib.hid hown1
  clear hS1 hbw hown1 hb1
  go_wp2_with (at_builtin; refine wpList_append_own _ rfl (.tmp 13) (.tmp 14) 25 rfl (w.heap.size + 1) 3 i0 _ 1 8 Tryd.underlying25 hi0 hz0 hz1 hz2 rfl (by decide) _ 0 [] rfl (World.ownsRow_made w1 #[] 0 (by omega) (by unfold maxLen; omega) rfl) ⟨Pb, 0, none⟩ np np (zp np) rfl ?c0 ?c1 ?c2 ?c3 ?c4 ?c5 ?_)
  case c0 => simp [zp]
  case c1 =>
    intro j u hu
    unfold zp at hu
    rw [List.getElem?_replicate] at hu
    split at hu
    · rename_i hj
      simp at hu
      subst hu
      have := (World.cell?_alloc_lt w1 (.cells #[] 3) ⟨Pb, j, none⟩ (by show Pb < _; omega)).trans ((HB.out.cell (p := ⟨Pb, j, none⟩) hpb).trans (HP.out j hj))
      rw [Addr.add_lit, Nat.zero_add]
      exact this
    · cases hu
  case c2 => intro u hu; rw [(List.mem_replicate.1 hu).2]; rfl
  case c3 => unfold maxLen; omega
  case c4 => omega
  case c5 => simp; omega
  intro v2 w2 hown2 hg2 _
  have hS2 := (HS1.out.alloc (.cells #[] 3)).grown hg2 (by simp [Value.ownBlock]; omega)
  have hb2 : Below w.heap.size w w2 := (HB.out.alloc (by omega) _).grown hg2 (by simp; omega) (by simp [Value.ownBlock]; omega)
  have ho1 : w2.ownsRow (w.heap.size + 1) 5 1 (.slice A1 n c1) n (bs zs) := by
    refine own_mono ((HO1.out.alloc (.cells #[] 3)).kept hg2 ?_) (by simp)
    refine Classical.or_iff_not_imp_left.2 fun hne h => ?_
    have := (HO1.out.lt w1.heap.size (by simpa [Value.ownBlock] using h)).2
    omega
  obtain ⟨A2, c2, hv⟩ := own_slice hown2
  rw [hv] at hown2 ⊢
  have o0 := hS2.cell 0
  have o1 := hS2.cell 1
  have o2 := hS2.cell 2
  have o3 := hS2.cell 3
  have p0 := hS2.frozen 0
  have p1 := hS2.frozen 1
  have p2 := hS2.frozen 2
  have p3 := hS2.frozen 3
  simp at o0 o1 o2 o3
  have HS2 := Lib.hid hS2
  have HB2 := Lib.hid hb2
  have HO1' := Lib.hid ho1
  have HO2 := Lib.hid hown2
  clear hv hS2 hb2 ho1 hown2 hg2 HO1
  go_wp2_with fail
  have b0 := HS2.out.set_ 0 (.slice A1 n c1)
  have b1 := b0.set_ 1 (.slice A2 np c2)
  have b2 := b1.set_ 2 (.bool false)
  have b3 := b2.set_ 3 (.bool false)
  have s0 := b0.cell 0
  have s1 := b1.cell 1
  have s2 := b2.cell 2
  have s3 := b3.cell 3
  simp at s0 s1 s2 s3
  refine bodyPost_ret (v := .agg #[.slice A1 n c1, .slice A2 np c2, .bool false, .bool false]) (by simp [results, Tryd.results5, go_sem, s0, s1, s2, s3]) rfl ?_
  refine ⟨A1, c1, A2, c2, rfl, own_mono (ownsRow_setCell_below (ownsRow_setCell_below (ownsRow_setCell_below (ownsRow_setCell_below HO1'.out (by simp) _) (by simp) _) (by simp) _) (by simp) _) (by omega), ?_, (((HB2.out.setCell (Nat.le_refl _) _).setCell (Nat.le_refl _) _).setCell (Nat.le_refl _) _).setCell (Nat.le_refl _) _⟩
  have := own_mono (base' := w.heap.size) (ownsRow_setCell_below (ownsRow_setCell_below (ownsRow_setCell_below (ownsRow_setCell_below HO2.out (a := ⟨w.heap.size, 0, none⟩) (by simp) (.slice A1 n c1)) (a := ⟨w.heap.size, 1, none⟩) (by simp) (.slice A2 np c2)) (a := ⟨w.heap.size, 2, none⟩) (by simp) (.bool false)) (a := ⟨w.heap.size, 3, none⟩) (by simp) (.bool false)) (by omega)
  simpa using this

/-- k calls of ReadByte. -/
def cs (k : Nat) : List Value := (List.replicate k [Value.int .i64 1, .int .i64 0, .int .u8 0]).flatten
theorem cs_succ (k : Nat) : cs (k + 1) = cs k ++ [Value.int .i64 1, .int .i64 0, .int .u8 0] := by
  unfold cs
  rw [List.replicate_succ', List.flatten_append]
  simp

set_option maxHeartbeats 800000 in
theorem repeated_all (t : Nat) (w : World) (ht : t ≤ 21) :
    Calls Tryd.prog 6 #[callV, .int .i64 t] w fun r w' => ∃ A c', r = .returned (.slice A t c') ∧ w'.ownsRow w.heap.size 32 3 (.slice A t c') t (cs t) ∧ Below w.heap.size w w' := by
  obtain ⟨i0, hi0, hz0, hz1, hz2⟩ := info_parts Tryd.info32
  go_enter Tryd.func6, Tryd.ntmps6
  go_wp2_with fail
  go_loopw [5, 8] (fun v i wr => ∃ k : Nat, k ≤ t ∧ i = .int .i64 k ∧ Hid (wr.ownsRow (w.heap.size + 1) 32 3 v k (cs k)) ∧ Hid (Blk wr w.heap.size 32 #[.int .i64 1, .int .i64 0, .int .u8 0]) ∧ Hid (Below w.heap.size w wr)) (fun _ i _ => t - (intOf i).toNat)
  case atStart =>
    have h0 : ((w.alloc (.cells #[.int .i64 1, .int .i64 0, .int .u8 0] 32)).alloc (.cells #[] 32)).ownsRow (w.heap.size + 1) 32 3 (.slice (some ⟨w.heap.size + 1, 0, none⟩) 0 0) 0 [] := by
      have := World.ownsRow_made (base := w.heap.size + 1) (e := 32) (size := 3) (w.alloc (.cells #[.int .i64 1, .int .i64 0, .int .u8 0] 32)) #[] 0 (by simp) (by unfold maxLen; omega) rfl
      simpa using this
    exact ⟨0, by omega, rfl, h0, (Blk.new w 32 _).alloc _, ((Below.refl _ _).alloc (Nat.le_refl _) _).alloc (by simp) _⟩
  case round =>
    obtain ⟨k, hk, rfl, hown, hcb, hbl⟩ := hrel
    by_cases hlt : k < t
    · have x0 := hcb.out.cell 0
      have x1 := hcb.out.cell 1
      have x2 := hcb.out.cell 2
      simp at x0 x1 x2
      have hsz := hcb.out.lt
      go_wp2_with (at_builtin; refine wpList_append_own _ rfl (.tmp 10) (.tmp 12) 29 rfl (w.heap.size + 1) 32 i0 _ 3 24 Tryd.underlying29 hi0 hz0 hz1 hz2 rfl (by decide) _ _ _ rfl (hown.out.alloc _) ⟨wr.heap.size, 0, none⟩ 1 1 [.int .i64 1, .int .i64 0, .int .u8 0] rfl rfl ?c1 ?c2 ?c3 ?c4 ?c5 ?_)
      case c1 => exact World.news_of_block (cs := #[.int .i64 1, .int .i64 0, .int .u8 0]) (t := 32) (fr := (0, 0)) (heap_alloc_new wr _)
      case c2 => simp [Value.oneCell']
      case c3 => unfold maxLen; omega
      case c4 => omega
      case c5 => simp; omega
      intro v' w1 hown' hgrow _
      have R1 : Hid (w1.ownsRow (w.heap.size + 1) 32 3 v' (k + 1) (cs (k + 1))) := by
        show w1.ownsRow _ _ _ _ _ _
        rw [cs_succ k]
        exact hown'
      have R2 : Hid (Below w.heap.size w w1) := (hbl.out.alloc (by omega) _).grown hgrow (by simp; omega) (fun i hi => by have := (hown.out.lt i hi).1; omega)
      have R3 : Hid (Blk w1 w.heap.size 32 #[.int .i64 1, .int .i64 0, .int .u8 0]) := (hcb.out.alloc _).grown hgrow (fun hi => by have := (hown.out.lt _ hi.symm).1; omega)
      clear hown' hgrow x0 x1 x2
      go_wp2
      go_roundw
      case rel => exact ⟨k + 1, by omega, by go_num, R1, R3, R2⟩
      case measure => simp [intOf]; omega
    · obtain rfl : k = t := by omega
      go_wp2
      go_ret
      have := own_mono (base' := w.heap.size) hown.out (by omega)
      obtain ⟨A, c', hv⟩ := own_slice this
      subst hv
      exact ⟨A, c', rfl, this, hbl.out⟩
end Go.Proofs.YtbgejedfdhnfpaaDoor
