/-
  The walk of LawS5339AFind.
-/
import Derived.Test.YbulkdfnwFind
import Derived.Deep.RegionWith
import Derived.Deep.DeepCutAuto
import Derived.Deep.CutBlock
import Derived.Lib.Builder
namespace Go.Proofs.Ybulkdfnw.Find
open Go.RowKit

theorem info30 : (Yba.prog.info? 30).map (fun i => (i.zero, i.size, i.bytes)) = some (some (.agg #[.string ByteArray.empty, .int .i64 0]), 2, 24) := by kernel_rfl
theorem info27 : (Yba.prog.info? 27).map (fun i => (i.zero, i.size, i.bytes)) = some (some (.pointer Option.none), 1, 8) := by kernel_rfl

/-- The first k entries, made. -/
def Made (w : World) (B k : Nat) (cur : Array Value) (pt : Nat → Nat) (nm : Nat → ByteArray) (st : Nat → Int) : Prop :=
  ∀ j, j < k → cur[j]? = some (.pointer (some ⟨pt j, 0, Option.none⟩)) ∧ w.heap[pt j]? = some (.cells #[.string (nm j), .int .i64 (st j)] 30 (0, 0)) ∧ B < pt j

theorem made_step {wr W : World} {B k n : Nat} {cur : Array Value} {pt : Nat → Nat} {nm : Nat → ByteArray} {st : Nat → Int} (hcur : wr.heap[B]? = some (.cells cur 27 (0, 0))) (hcs : cur.size = n) (hm : Made wr B k cur pt nm st) (hkn : k < n)
    (hW : W.heap = ((wr.setCell ⟨B, k, Option.none⟩ (.pointer (some ⟨wr.heap.size, 0, Option.none⟩))).alloc (.cells #[.string (nm k), .int .i64 (st k)] 30)).heap) :
    W.heap[B]? = some (.cells (cur.setIfInBounds k (.pointer (some ⟨wr.heap.size, 0, Option.none⟩))) 27 (0, 0)) ∧ (cur.setIfInBounds k (.pointer (some ⟨wr.heap.size, 0, Option.none⟩))).size = n ∧
      Made W B (k + 1) (cur.setIfInBounds k (.pointer (some ⟨wr.heap.size, 0, Option.none⟩))) (fun j => if j = k then wr.heap.size else pt j) nm st := by
  have hB : B < wr.heap.size := (Array.getElem?_eq_some_iff.1 hcur).1
  have hsz : (wr.setCell ⟨B, k, Option.none⟩ (.pointer (some ⟨wr.heap.size, 0, Option.none⟩))).heap.size = wr.heap.size := by simp [World.setCell]
  have hold : ∀ i, i < wr.heap.size → W.heap[i]? = (wr.setCell ⟨B, k, Option.none⟩ (.pointer (some ⟨wr.heap.size, 0, Option.none⟩))).heap[i]? := by
    intro i hi
    rw [hW]
    exact Below.heap_alloc _ _ _ (by omega)
  refine ⟨?_, by simp [hcs], ?_⟩
  · rw [hold B hB]
    exact heap_setCell_same wr B k cur 27 _ hcur
  · intro j hj
    by_cases hjk : j = k
    · subst hjk
      refine ⟨by simp [hcs, hkn], ?_, by simp [hB]⟩
      simp only [if_true]
      have hnew := heap_alloc_new (wr.setCell ⟨B, j, Option.none⟩ (.pointer (some ⟨wr.heap.size, 0, Option.none⟩))) (.cells #[.string (nm j), .int .i64 (st j)] 30)
      rw [hsz] at hnew
      rw [hW]
      exact hnew
    · obtain ⟨h1, h2, h3⟩ := hm j (by omega)
      have hlt : pt j < wr.heap.size := (Array.getElem?_eq_some_iff.1 h2).1
      simp only [if_neg hjk]
      refine ⟨by rw [Array.getElem?_setIfInBounds_ne (by omega)]; exact h1, ?_, h3⟩
      rw [hold _ hlt, heap_setCell_other _ _ _ _ (by show pt j ≠ B; omega)]
      exact h2

theorem rowed_of_made {w : World} {B n : Nat} {cur : Array Value} {pt : Nat → Nat} {nm : Nat → ByteArray} {st : Nat → Int} (hcur : w.heap[B]? = some (.cells cur 27 (0, 0))) (hm : Made w B n cur pt nm st) : Rowed w B n pt nm st := by
  intro j hj
  obtain ⟨h1, h2, _⟩ := hm j hj
  exact ⟨by rw [cell_of_row w B j cur 27 (0, 0) hcur]; exact h1, by rw [cell_of_row w _ 0 _ 30 (0, 0) h2]; rfl, by rw [cell_of_row w _ 1 _ 30 (0, 0) h2]; rfl⟩

set_option maxRecDepth 1000000 in
set_option maxHeartbeats 1000000 in
theorem walk_le (a0 : Option Addr) (n c0 : Nat) (nm : Nat → ByteArray) (a1 : Option Addr) (m c1 : Nat) (st : Nat → Int) (isNil : Bool) (nameS : ByteArray) (p4 : Int) (w : World)
    (hn : n ≤ 1024) (hp0 : 0 ≤ p4) (hp1 : p4 ≤ 255)
    (hcell : Hid (∀ k, k < n → ∃ b off, a0 = some ⟨b, off, Option.none⟩ ∧ b < w.heap.size ∧ ∀ j, j < n → w.cell? ⟨b, off + j, Option.none⟩ = some (.string (nm j))))
    (hst : Hid (∀ i, (m ≤ i ∧ st i = 0) ∨ (∃ b off, i < m ∧ a1 = some ⟨b, off, Option.none⟩ ∧ w.cell? ⟨b, off + i, Option.none⟩ = some (.int .i64 (st i))))) :
    Calls Yba.prog 3 #[.slice a0 n c0, .slice a1 m c1, .bool isNil, .string nameS, .int .u8 p4] w fun e w' => e = .returned (.bool true) ∧ Below w.heap.size w w' := by
  go_enter Yba.func3, Yba.ntmps3
  go_upto_region 4 with (fail)
  go_cut [32] (fun v w' => (∃ b, v = .bool b ∧ (b = true → 0 < n)) ∧ w = w')
  case first =>
    by_cases h1 : p4 % 2 = 0
    · go_wp2
      go_meet
      case rel => exact ⟨⟨_, rfl, by simp⟩, rfl⟩
    · have h1' : (p4 % 2 == 0) = false := by simpa using h1
      go_wp2
      go_meet
      case rel => exact ⟨⟨_, rfl, by simp⟩, rfl⟩
  case rest =>
  obtain ⟨⟨b, rfl, hb⟩, rfl⟩ := hcut
  go_upto_if 32 with (fail)
  go_cut [11] (fun v w' => (∃ q, v = .string q) ∧ w = w')
  case first =>
    cases b with
    | false =>
      clear hb
      go_wp2
      go_meet
      case rel => exact ⟨⟨_, rfl⟩, rfl⟩
    | true =>
      have hpos : 0 < n := hb rfl
      clear hb
      obtain ⟨b0, off, rfl, hlt, hc⟩ := hcell.out 0 hpos
      clear hcell
      obtain ⟨ix, hix⟩ : ∃ ix : Nat, p4 / 2 % (n : Int) = (ix : Int) := ⟨(p4 / 2 % (n : Int)).toNat, by have := Int.emod_nonneg (p4 / 2) (b := (n : Int)) (by omega); omega⟩
      have hixn : ix < n := by have := Int.emod_lt_of_pos (p4 / 2) (b := (n : Int)) (by omega); omega
      have hcx := hc ix hixn
      clear hc
      go_wp2
      go_meet
      case rel => exact ⟨⟨_, rfl⟩, rfl⟩
  case rest =>
  obtain ⟨⟨q, rfl⟩, rfl⟩ := hcut
  cases isNil with
  | true =>
    go_wp2_with (go_at_call 6; refine (es_nil _ _).mono ?_; rintro e w' ⟨rfl, rfl⟩)
    go_ret
    exact ⟨rfl, Below.refl _ _⟩
  | false =>
  obtain ⟨x, hA⟩ := answer_ex n nm st q
  obtain ⟨i0, hi, hz0, hz1, hz2⟩ := info_parts info27
  go_wp2_with (at_make; refine wpList_make_full _ rfl _ _ 26 rfl w.heap.size 27 i0 (.pointer Option.none) 1 Yba.underlying26 hi hz0 hz1 _ _ _ _ n rfl rfl (by omega) (by omega) ?b2 ?b3 (Nat.le_refl _) ?_)
  case b2 => rw [hz2]; omega
  case b3 => unfold maxLen; omega
  intro w1 hown1 hg1
  have hb1 : Below w.heap.size w w1 := (Below.refl _ _).grown hg1 (Nat.le_refl _) (fun k h => by cases h)
  obtain ⟨cur0, hcur0, hcs0⟩ : ∃ cur, w1.heap[w.heap.size]? = some (.cells cur 27 (0, 0)) ∧ cur.size = n := by
    rcases hown1.2 with ⟨h, _⟩ | ⟨g, cap, cur, hv, _, hg, _, _, hs, _⟩
    · cases h
    · cases hv
      exact ⟨cur, hg, by omega⟩
  clear hown1 hg1
  go_wp2
  go_loopw [14] (fun t wr => ∃ (k : Nat) (cur : Array Value) (pt : Nat → Nat), k ≤ n ∧ t = .int .i64 k ∧ Hid (wr.heap[w.heap.size]? = some (.cells cur 27 (0, 0))) ∧ Hid (cur.size = n) ∧ Hid (Made wr w.heap.size k cur pt nm st) ∧ Below w.heap.size w wr) (fun t _ => n - (intOf t).toNat)
  case atStart => exact ⟨0, cur0, fun _ => 0, Nat.zero_le _, rfl, hcur0, hcs0, fun j hj => by omega, hb1⟩
  case round =>
    obtain ⟨k, cur, pt, hk, rfl, hcur, hcs, hmade, hnx⟩ := hrel
    have hBlt : w.heap.size < wr.heap.size := (Array.getElem?_eq_some_iff.1 hcur.out).1
    by_cases hkn : k < n
    · obtain ⟨b0, off, rfl, hlt0, hc⟩ := hcell.out k hkn
      have hcx : wr.cell? ⟨b0, off + k, Option.none⟩ = some (.string (nm k)) := (hnx.cell (by exact hlt0)).trans (hc k hkn)
      clear hc
      obtain ⟨vo, hvo⟩ : ∃ v, wr.cell? ⟨w.heap.size, k, Option.none⟩ = some v := by
        rw [cell_of_row wr _ k cur 27 (0, 0) hcur.out]
        exact ⟨_, Array.getElem?_eq_getElem (by rw [hcs.out]; exact hkn)⟩
      have hfo : wr.frozen? ⟨w.heap.size, k, Option.none⟩ = false := by simp [World.frozen?, hcur.out]
      have hsk : Hid ((m ≤ k ∧ st k = 0) ∨ (∃ b off, k < m ∧ a1 = some ⟨b, off, Option.none⟩ ∧ wr.cell? ⟨b, off + k, Option.none⟩ = some (.int .i64 (st k)))) := by
        rcases hst.out k with h | ⟨b, o, h1, h2, h3⟩
        · exact .inl h
        · exact .inr ⟨b, o, h1, h2, (hnx.cell (World.block_lt_of_cell? w _ h3)).trans h3⟩
      go_wp2_with fail
      go_region_with (go_at_call 7; refine (stat_any _ _ _ _ (st k) _ ?_).mono ?_; exact hsk; rintro e w' ⟨rfl, rfl⟩)
      all_goals
        go_wp2
        go_roundw
        case rel =>
          obtain ⟨r1, r2, r3⟩ := made_step (W := ((wr.setCell ⟨w.heap.size, k, Option.none⟩ (.pointer (some ⟨wr.heap.size, 0, Option.none⟩))).alloc (.cells #[.string (nm k), .int .i64 (st k)] 30))) hcur.out hcs.out hmade.out hkn rfl
          have hb2 : Below w.heap.size w ((wr.setCell ⟨w.heap.size, k, Option.none⟩ (.pointer (some ⟨wr.heap.size, 0, Option.none⟩))).alloc (.cells #[.string (nm k), .int .i64 (st k)] 30)) := (hnx.setCell (Nat.le_refl _) _).alloc (by simp [World.setCell]; omega) _
          exact ⟨k + 1, _, _, by omega, by go_num, r1, r2, r3, ⟨hb2.os, hb2.tape, hb2.output, hb2.size, hb2.block⟩⟩
        case measure => simp [intOf]; omega
    · obtain rfl : k = n := by omega
      have hR0 : Rowed wr w.heap.size k pt nm st := rowed_of_made hcur.out hmade.out
      clear hcs hmade hcur
      go_wp2_with fail
      refine (es_some wr.heap.size w.heap.size k k pt nm st q x _ hn ?_ hA ?_).mono ?_
      · exact rowed_alloc hR0 _
      · simp
      rintro e w2 ⟨rfl, hb2⟩
      have hR2 : Hid (Rowed w2 w.heap.size k pt nm st) := by
        intro j hj
        obtain ⟨h1, h2, h3⟩ := rowed_alloc hR0 (.cells #[.slice (some ⟨w.heap.size, 0, Option.none⟩) k k, .int .i64 7, .pointer Option.none] 35) j hj
        exact ⟨cell_later hb2 h1, cell_later hb2 h2, cell_later hb2 h3⟩
      have hh0 : w2.cell? ⟨wr.heap.size, 0, Option.none⟩ = some (.slice (some ⟨w.heap.size, 0, Option.none⟩) k k) := cell_later hb2 (by simp)
      have hh1 : w2.cell? ⟨wr.heap.size, 1, Option.none⟩ = some (.int .i64 7) := cell_later hb2 (by simp)
      have hh2 : w2.cell? ⟨wr.heap.size, 2, Option.none⟩ = some (.pointer Option.none) := cell_later hb2 (by simp)
      have hbw : Below w.heap.size w w2 := (hnx.alloc hnx.size _).trans (hb2.mono (by simp; omega))
      clear hR0 hb2 hnx
      have hcell2 : Hid (∀ j, j < k → ∃ b off, a0 = some ⟨b, off, Option.none⟩ ∧ ∀ j, j < k → w2.cell? ⟨b, off + j, Option.none⟩ = some (.string (nm j))) := by
        intro j hj
        obtain ⟨b, o, h1, h2, h3⟩ := hcell.out j hj
        exact ⟨b, o, h1, fun j hj => (hbw.cell (by exact h2)).trans (h3 j hj)⟩
      have hst2 : Hid (∀ i, (m ≤ i ∧ st i = 0) ∨ (∃ b off, i < m ∧ a1 = some ⟨b, off, Option.none⟩ ∧ w2.cell? ⟨b, off + i, Option.none⟩ = some (.int .i64 (st i)))) := by
        intro i
        rcases hst.out i with h | ⟨b, o, h1, h2, h3⟩
        · exact .inl h
        · exact .inr ⟨b, o, h1, h2, (hbw.cell (World.block_lt_of_cell? w _ h3)).trans h3⟩
      clear hcell hst
      go_upto_block 2 with (fail)
      go_cut [17] (fun v w' => v = .int .i64 x ∧ w2 = w')
      case first =>
        clear hR2 hh0 hh1 hh2 hbw
        rcases hA with ⟨i, hi, hy0, hno0, rfl⟩ | ⟨hno0, rfl⟩
        · have hy : Hid (((nm i).toList == q.toList) = true) := hy0
          have hno : Hid (∀ j, j < i → ((nm j).toList == q.toList) = false) := hno0
          clear hy0 hno0
          go_wp2_with fail
          go_loop [17, 18] (fun v t => ∃ j : Nat, j ≤ i ∧ t = .int .i64 j ∧ v = .int .i64 0) (fun _ t => k - (intOf t).toNat)
          case atStart => exact ⟨0, Nat.zero_le _, rfl, rfl⟩
          case round =>
            obtain ⟨j, hj, rfl, rfl⟩ := hrel
            have hjk : j < k := by omega
            obtain ⟨b0, off, rfl, hc⟩ := hcell2.out j hjk
            have hcj := hc j hjk
            clear hc
            by_cases hji : j = i
            · subst hji
              have hyy := hy.out
              go_wp2_with (go_at_call 7; refine (stat_any _ _ _ _ (st j) _ ?_).mono ?_; exact hst2.out j; rintro e w' ⟨rfl, rfl⟩)
              go_meet
              case rel => exact ⟨rfl, rfl⟩
            · have hyy := hno.out j (by omega)
              go_wp2
              go_round
              case rel => exact ⟨j + 1, by omega, by go_num, rfl⟩
              case measure => simp [intOf]; omega
        · have hno : Hid (∀ j, j < k → ((nm j).toList == q.toList) = false) := hno0
          clear hno0
          go_wp2_with fail
          go_loop [17, 18] (fun v t => ∃ j : Nat, j ≤ k ∧ t = .int .i64 j ∧ v = .int .i64 0) (fun _ t => k - (intOf t).toNat)
          case atStart => exact ⟨0, Nat.zero_le _, rfl, rfl⟩
          case round =>
            obtain ⟨j, hj, rfl, rfl⟩ := hrel
            by_cases hjk : j < k
            · obtain ⟨b0, off, rfl, hc⟩ := hcell2.out j hjk
              have hcj := hc j hjk
              clear hc
              have hyy := hno.out j (by omega)
              go_wp2
              go_round
              case rel => exact ⟨j + 1, by omega, by go_num, rfl⟩
              case measure => simp [intOf]; omega
            · go_wp2
              go_meet
              case rel => exact ⟨rfl, rfl⟩
      case rest =>
      obtain ⟨rfl, rfl⟩ := hcut
      clear hA
      go_wp2_with fail
      obtain ⟨wo, hwo⟩ : ∃ wo : World, wo = wr := ⟨_, rfl⟩
      subst hwo
      go_loopw [19, 20] (fun t _ wx => ∃ j : Nat, j ≤ k ∧ t = .int .i64 j ∧ Hid (∃ d, wx = w2.drewN d)) (fun t _ _ => k - (intOf t).toNat)
      case atStart => exact ⟨0, Nat.zero_le _, rfl, 0, rfl⟩
      case round =>
        obtain ⟨j, hj, rfl, hw⟩ := hrel
        by_cases hjk : j < k
        · obtain ⟨b0, off, rfl, hc⟩ := hcell2.out j hjk
          obtain ⟨hcj, g0, r1, r2, r3, hsj⟩ : wr.cell? ⟨b0, off + j, Option.none⟩ = some (.string (nm j)) ∧ wr.cell? ⟨wo.heap.size, 0, Option.none⟩ = some (.slice (some ⟨w.heap.size, 0, Option.none⟩) k k) ∧
              wr.cell? ⟨w.heap.size, j, Option.none⟩ = some (.pointer (some ⟨pt j, 0, Option.none⟩)) ∧ wr.cell? ⟨pt j, 0, Option.none⟩ = some (.string (nm j)) ∧ wr.cell? ⟨pt j, 1, Option.none⟩ = some (.int .i64 (st j)) ∧
              Hid ((m ≤ j ∧ st j = 0) ∨ (∃ b off, j < m ∧ a1 = some ⟨b, off, Option.none⟩ ∧ wr.cell? ⟨b, off + j, Option.none⟩ = some (.int .i64 (st j)))) := by
            obtain ⟨d, rfl⟩ := hw.out
            obtain ⟨r1, r2, r3⟩ := hR2.out j hjk
            exact ⟨hc j hjk, hh0, r1, r2, r3, hst2.out j⟩
          clear hc hh0 hh1 hh2
          obtain ⟨i30, hi30, _, _, _⟩ := info_parts info30
          have hne := fun wx => Lib.run_neq_ptr_same (P := Yba.prog) wx (tp := 27) (te := 30) ⟨pt j, 0, Option.none⟩ Yba.underlying27 hi30
          go_wp2_with fail
          go_quiet ((go_at_call 7; refine Calls.quiet_of_same (stat_any _ _ _ _ (st j) _ ?_); exact hsj))
          go_wp2
          go_roundw
          case rel => exact ⟨j + 1, by omega, by go_num, by obtain ⟨d, rfl⟩ := hw.out; exact ⟨d + nq, by simp⟩⟩
          case measure => simp [intOf]; omega
        · go_wp2
          go_ret
          exact ⟨rfl, by obtain ⟨d, rfl⟩ := hw.out; exact below_drewN hbw _⟩
end Go.Proofs.Ybulkdfnw.Find
