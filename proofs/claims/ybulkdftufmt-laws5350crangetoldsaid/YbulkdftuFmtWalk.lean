/-
  DERIVED. The law's walk.
-/
import Derived.Test.YbulkdftuFmtYear
import Derived.Lib.SmallJoins
namespace Go.Proofs.YbulkdftuFmt
open Go.RowKit Go.Extern.Stop Go.Stop Go.Extern

theorem gPow : Ybaf.prog.globalNamed Ybaf.powName = some 2 := by kernel_rfl

set_option maxHeartbeats 1000000 in
theorem range_any (F : Interp) (nm : ByteArray) (y o : Int) (w : World) (hF : F.answers w.tape) (h0 : -9223372036854775808 ≤ y) (h1 : y ≤ 9223372036854775807) (ho : 0 ≤ o) (ho' : o ≤ 255)
    (htab : Lib.TabIs Ybaf.prog w Ybaf.powName .u64 Lib.pow10Tab) :
    Calls Ybaf.prog 3 #[.string nm, .int .i64 y, .int .u8 o] w fun e w' => e = .returned (.bool true) ∧ Below w.heap.size w w' := by
  go_enter Ybaf.func3, Ybaf.ntmps3
  go_wp2_with fail
  have hbA : Below w.heap.size w (w.alloc (.cells #[.int .i64 y, .int .i64 (1000 + (o % 11 - 5)), .int .i64 (9999 + (o % 11 - 5))] 22)) := (Below.refl _ _).alloc (Nat.le_refl _) _
  have hsA : (w.alloc (.cells #[.int .i64 y, .int .i64 (1000 + (o % 11 - 5)), .int .i64 (9999 + (o % 11 - 5))] 22)).heap.size = w.heap.size + 1 := by simp
  have hcA : Hid (∀ k : Nat, k < 3 → ∃ z : Int, (w.alloc (.cells #[.int .i64 y, .int .i64 (1000 + (o % 11 - 5)), .int .i64 (9999 + (o % 11 - 5))] 22)).cell? ⟨w.heap.size, k, Option.none⟩ = some (.int .i64 z) ∧ -9223372036854775808 ≤ z ∧ z ≤ 9223372036854775807) := by
    intro k hk
    match k, hk with
    | 0, _ => exact ⟨y, by simp, h0, h1⟩
    | 1, _ => exact ⟨1000 + (o % 11 - 5), by simp, by omega, by omega⟩
    | 2, _ => exact ⟨9999 + (o % 11 - 5), by simp, by omega, by omega⟩
  generalize w.alloc (.cells #[.int .i64 y, .int .i64 (1000 + (o % 11 - 5)), .int .i64 (9999 + (o % 11 - 5))] 22) = wA at hbA hsA hcA ⊢
  go_loopw [9] (fun t wr => ∃ k : Nat, k ≤ 3 ∧ t = .int .i64 k ∧ Hid (Below wA.heap.size wA wr)) (fun t _ => 3 - (intOf t).toNat)
  case atStart => exact ⟨0, Nat.zero_le _, rfl, Below.refl _ _⟩
  case round =>
    obtain ⟨k, hk, rfl, hb⟩ := hrel
    by_cases hk3 : k < 3
    · obtain ⟨z, hz, z0, z1⟩ := hcA.out k hk3
      have hcz : wr.cell? ⟨w.heap.size, k, Option.none⟩ = some (.int .i64 z) := (hb.out.cell (by show w.heap.size < _; omega)).trans hz
      have hw : Hid (Below w.heap.size w wr) := hbA.trans (hb.out.mono (by omega))
      have hFr : Hid (F.answers wr.tape) := answers_same hw.out.tape hF
      have htr : Hid (Lib.TabIs Ybaf.prog wr Ybaf.powName .u64 Lib.pow10Tab) := Joins.tab_stays gPow htab hw.out (Nat.le_refl _)
      clear hz
      by_cases hin : ¬ z < 1000 ∧ ¬ 9999 < z
      · obtain ⟨i0, i1⟩ := hin
        go_wp2_with (first | (go_at_call 5; refine (CheckYear_ok _ _ _ i0 i1).mono ?_; rintro e w1 ⟨rfl, rfl⟩) | (go_at_call 6; refine (zin_any _ _).mono ?_; rintro e w2 ⟨rfl, rfl⟩))
        go_roundw
        case rel => exact ⟨k + 1, by omega, by go_num, hb⟩
        case measure => simp [intOf]; omega
      · have hout : Hid (z < 1000 ∨ 9999 < z) := by
          show z < 1000 ∨ 9999 < z
          omega
        go_wp2_with (first | (go_at_call 5; refine (CheckYear_bad F _ _ _ hFr.out z0 z1 hout.out htr.out).mono ?_; rintro e w1 ⟨⟨a, rfl⟩, hb1⟩) | (go_at_call 6; refine (zin_any _ _).mono ?_; rintro e w2 ⟨rfl, rfl⟩))
        go_roundw
        case rel => exact ⟨k + 1, by omega, by go_num, hb.out.trans (hb1.mono hb.out.size)⟩
        case measure => simp [intOf]; omega
    · go_wp2
      go_ret
      exact ⟨rfl, hbA.trans (hb.out.mono (by omega))⟩

end Go.Proofs.YbulkdftuFmt
