/-
  DERIVED. The walks: notYear (through fmt.Errorf), CheckYear, zzs5350cin.
-/
import Derived.Test.YbulkdftuFmtRows
import Derived.Test.YbulkdftuFmtFacts
import Derived.Test.YbulkdftuFmtShelf
import Derived.WalkKit
import Derived.WalkSpells
import Derived.Lib.AppendIntMem
namespace Go.Proofs.YbulkdftuFmt
open Go.RowKit Go.Extern.Stop Go.Stop Go.Extern
attribute [local go_sem] Ybaf.call19 Ybaf.guard Ybaf.fmt0 Ybaf.fmt0r Ybaf.fmt1 Ybaf.fmt1r Ybaf.op9_115 Ybaf.op9_115w Ybaf.strict9 Ybaf.ptr56 Ybaf.elem56 Ybaf.isError56'

set_option maxHeartbeats 1000000 in
/-- notYear: a new error; nothing older is written. -/
theorem notYear_any (F : Interp) (nm tx : ByteArray) (w : World) (hF : F.answers w.tape) :
    Calls Ybaf.prog 9 #[.string nm, .string tx] w fun e w' => (∃ a, e = .returned (.iface 56 (.pointer (some a)))) ∧ Below w.heap.size w w' := by
  have hF' := answers_open hF
  go_enter Ybaf.func9, Ybaf.ntmps9
  go_wp2
  go_ret
  refine ⟨⟨_, rfl⟩, ?_⟩
  refine Below.drew ?_
  refine Below.alloc ?_ ?_ _
  · exact Below.alloc (Below.refl _ _) (Nat.le_refl _) _
  · exact (Below.alloc (Below.refl w.heap.size w) (Nat.le_refl _) _).size

theorem answers_same {F : Interp} {w w' : World} (h : w'.tape = w.tape) (hF : F.answers w.tape) : F.answers w'.tape := by
  rw [h]; exact hF

theorem CheckYear_ok (nm : ByteArray) (y : Int) (w : World) (h0 : ¬ y < 1000) (h1 : ¬ 9999 < y) :
    Calls Ybaf.prog 5 #[.string nm, .int .i64 y] w fun e w' => e = .returned .nilIface ∧ w' = w := by
  go_enter Ybaf.func5, Ybaf.ntmps5
  go_wp2
  go_ret
  exact ⟨rfl, rfl⟩

theorem zin_any (y : Int) (w : World) :
    Calls Ybaf.prog 6 #[.int .i64 y] w fun e w' => e = .returned (.bool (decide (1000 ≤ y) && decide (y ≤ 9999))) ∧ w' = w := by
  go_enter Ybaf.func6, Ybaf.ntmps6
  by_cases h : 1000 ≤ y
  · go_wp2
    go_ret
    simp [h]
  · go_wp2
    go_ret
    simp
    omega

theorem itoa_below (y : Int) (h0 : -9223372036854775808 ≤ y) (h1 : y ≤ 9223372036854775807) (w : World) (htab : Lib.TabIs Ybaf.prog w Ybaf.powName .u64 Lib.pow10Tab) :
    Calls Ybaf.prog 8 #[.int .i64 y] w fun e w' => (∃ t, e = .returned (.string t)) ∧ Below w.heap.size w w' :=
  (Ybaf.strconv_Itoa y h0 h1 w htab).mono fun e w' ⟨he, k, os, hw⟩ => ⟨⟨_, he⟩, by
    subst hw
    exact Lib.below_grow _ w (Nat.le_refl _) k os⟩

set_option maxHeartbeats 1000000 in
theorem CheckYear_bad (F : Interp) (nm : ByteArray) (y : Int) (w : World) (hF : F.answers w.tape) (h0 : -9223372036854775808 ≤ y) (h1 : y ≤ 9223372036854775807) (hb : y < 1000 ∨ 9999 < y)
    (htab : Lib.TabIs Ybaf.prog w Ybaf.powName .u64 Lib.pow10Tab) :
    Calls Ybaf.prog 5 #[.string nm, .int .i64 y] w fun e w' => (∃ a, e = .returned (.iface 56 (.pointer (some a)))) ∧ Below w.heap.size w w' := by
  go_enter Ybaf.func5, Ybaf.ntmps5
  by_cases h : y < 1000
  · go_wp2_with (go_at_call 8; refine (itoa_below _ h0 h1 _ htab).mono ?_; rintro e w1 ⟨⟨t, rfl⟩, hb1⟩)
    go_wp2_with (go_at_call 9; refine (notYear_any F _ _ _ (answers_same hb1.tape hF)).mono ?_; rintro e w2 ⟨⟨a, rfl⟩, hb2⟩)
    go_ret
    exact ⟨⟨a, rfl⟩, hb1.trans (hb2.mono hb1.size)⟩
  · have h' : 9999 < y := by omega
    go_wp2_with (go_at_call 8; refine (itoa_below _ h0 h1 _ htab).mono ?_; rintro e w1 ⟨⟨t, rfl⟩, hb1⟩)
    go_wp2_with (go_at_call 9; refine (notYear_any F _ _ _ (answers_same hb1.tape hF)).mono ?_; rintro e w2 ⟨⟨a, rfl⟩, hb2⟩)
    go_ret
    exact ⟨⟨a, rfl⟩, hb1.trans (hb2.mono hb1.size)⟩

end Go.Proofs.YbulkdftuFmt
