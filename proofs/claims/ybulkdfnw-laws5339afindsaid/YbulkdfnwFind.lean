/-
  The walks of zzs5339astatus, errorStatus$1, slices.IndexFunc at this type, errorStatus and ErrorStatus.
-/
import Derived.Test.YbulkdfnwRows
import Derived.WalkKit
import Derived.WalkSpells
import Derived.WalkLawsBesides
import Derived.Deep.QuietTactic
import Derived.BigQuiet
import Derived.Below
namespace Go.Proofs.Ybulkdfnw.Find
open Go.RowKit

/-- zzs5339astatus: the element, or 0 behind the end. -/
theorem stat_any (a1 : Option Addr) (m c i : Nat) (x : Int) (w : World)
    (h : (m ≤ i ∧ x = 0) ∨ (∃ b off, i < m ∧ a1 = some ⟨b, off, Option.none⟩ ∧ w.cell? ⟨b, off + i, Option.none⟩ = some (.int .i64 x))) :
    Calls Yba.prog 7 #[.slice a1 m c, .int .i64 (i : Int)] w fun e w' => e = .returned (.int .i64 x) ∧ w' = w := by
  rcases h with ⟨h, rfl⟩ | ⟨b, off, hlt, rfl, hc⟩
  · have h' : ¬ (i : Int) < (m : Int) := by omega
    clear h
    go_enter Yba.func7, Yba.ntmps7
    go_wp2
    go_ret
    exact ⟨rfl, rfl⟩
  · have h' : (i : Int) < (m : Int) := by omega
    go_enter Yba.func7, Yba.ntmps7
    go_wp2
    go_ret
    exact ⟨rfl, rfl⟩

/-- errorStatus$1: is this entry's name the one that is asked for? -/
theorem same_any (p Bq : Nat) (s q : ByteArray) (w : World) (hs : w.cell? ⟨p, 0, Option.none⟩ = some (.string s)) (hq : w.cell? ⟨Bq, 0, Option.none⟩ = some (.string q)) :
    Calls Yba.prog 13 #[.pointer (some ⟨p, 0, Option.none⟩), .pointer (some ⟨Bq, 0, Option.none⟩)] w fun e w' => e = .returned (.bool (s.toList == q.toList)) ∧ ∃ n, w' = w.drewN n := by
  go_enter Yba.func13, Yba.ntmps13
  go_wp2
  go_quiet (fail)
  go_wp2
  go_ret
  exact ⟨rfl, _, rfl⟩

/-- The entries as they lie in memory: place j of the row leads to a block whose first cell is the name. -/
def Rowed (w : World) (g n : Nat) (pt : Nat → Nat) (nm : Nat → ByteArray) (st : Nat → Int) : Prop :=
  ∀ j, j < n → w.cell? ⟨g, j, Option.none⟩ = some (.pointer (some ⟨pt j, 0, Option.none⟩)) ∧ w.cell? ⟨pt j, 0, Option.none⟩ = some (.string (nm j)) ∧ w.cell? ⟨pt j, 1, Option.none⟩ = some (.int .i64 (st j))

set_option maxHeartbeats 400000 in
theorem index_at (g n c Bq i : Nat) (pt : Nat → Nat) (nm : Nat → ByteArray) (st : Nat → Int) (q : ByteArray) (w : World) (hn : n ≤ 1024) (hR : Hid (Rowed w g n pt nm st)) (hq : w.cell? ⟨Bq, 0, Option.none⟩ = some (.string q))
    (hi : i < n) (hyes : Hid (((nm i).toList == q.toList) = true)) (hno : Hid (∀ j, j < i → ((nm j).toList == q.toList) = false)) :
    Calls Yba.prog 12 #[.slice (some ⟨g, 0, Option.none⟩) n c, .func (.func 13) #[] #[.pointer (some ⟨Bq, 0, Option.none⟩)]] w fun e w' => e = .returned (.int .i64 (i : Int)) ∧ ∃ n, w' = w.drewN n := by
  go_enter Yba.func12, Yba.ntmps12
  go_wp2
  go_loopw [5, 8] (fun _ t wr => ∃ (k d : Nat), k ≤ i ∧ t = .int .i64 k ∧ wr = w.drewN d) (fun _ t _ => n - (intOf t).toNat)
  case atStart => exact ⟨0, 0, Nat.zero_le _, rfl, rfl⟩
  case round =>
    obtain ⟨k, d, hk, rfl, rfl⟩ := hrel
    have hkn : k < n := by omega
    obtain ⟨hc0, hc1, _⟩ := hR.out k hkn
    by_cases hki : k = i
    · subst hki
      have hy := hyes.out
      go_wp2_with (go_at_call 13; refine (same_any _ _ _ _ _ (by exact hc1) (by exact hq)).mono ?_; rintro e w' ⟨rfl, m, rfl⟩)
      go_ret
      exact ⟨rfl, _, rfl⟩
    · have hy := hno.out k (by omega)
      go_wp2_with (go_at_call 13; refine (same_any _ _ _ _ _ (by exact hc1) (by exact hq)).mono ?_; rintro e w' ⟨rfl, m, rfl⟩)
      go_roundw
      case rel => exact ⟨k + 1, _, by omega, by go_num, rfl⟩
      case measure => simp [intOf]; omega

set_option maxHeartbeats 400000 in
theorem index_none (g n c Bq : Nat) (pt : Nat → Nat) (nm : Nat → ByteArray) (st : Nat → Int) (q : ByteArray) (w : World) (hn : n ≤ 1024) (hR : Hid (Rowed w g n pt nm st)) (hq : w.cell? ⟨Bq, 0, Option.none⟩ = some (.string q))
    (hno : Hid (∀ j, j < n → ((nm j).toList == q.toList) = false)) :
    Calls Yba.prog 12 #[.slice (some ⟨g, 0, Option.none⟩) n c, .func (.func 13) #[] #[.pointer (some ⟨Bq, 0, Option.none⟩)]] w fun e w' => e = .returned (.int .i64 (-1)) ∧ ∃ n, w' = w.drewN n := by
  go_enter Yba.func12, Yba.ntmps12
  go_wp2
  go_loopw [5, 8] (fun _ t wr => ∃ (k d : Nat), k ≤ n ∧ t = .int .i64 k ∧ wr = w.drewN d) (fun _ t _ => n - (intOf t).toNat)
  case atStart => exact ⟨0, 0, Nat.zero_le _, rfl, rfl⟩
  case round =>
    obtain ⟨k, d, hk, rfl, rfl⟩ := hrel
    by_cases hkn : k < n
    · obtain ⟨hc0, hc1, _⟩ := hR.out k hkn
      have hy := hno.out k (by omega)
      go_wp2_with (go_at_call 13; refine (same_any _ _ _ _ _ (by exact hc1) (by exact hq)).mono ?_; rintro e w' ⟨rfl, m, rfl⟩)
      go_roundw
      case rel => exact ⟨k + 1, _, by omega, by go_num, rfl⟩
      case measure => simp [intOf]; omega
    · go_wp2
      go_ret
      exact ⟨rfl, _, rfl⟩

theorem rowed_alloc {w : World} {g n : Nat} {pt : Nat → Nat} {nm : Nat → ByteArray} {st : Nat → Int} (h : Rowed w g n pt nm st) (o : Obj) : Rowed (w.alloc o) g n pt nm st := by
  intro j hj
  obtain ⟨h1, h2, h3⟩ := h j hj
  have hb : Below w.heap.size w (w.alloc o) := (Below.refl _ _).alloc (Nat.le_refl _) o
  exact ⟨cell_later hb h1, cell_later hb h2, cell_later hb h3⟩

set_option maxHeartbeats 400000 in
/-- errorStatus where entry i is the first of that name. -/
theorem status_at (g n c i : Nat) (pt : Nat → Nat) (nm : Nat → ByteArray) (st : Nat → Int) (q : ByteArray) (w : World) (hn : n ≤ 1024) (hR : Hid (Rowed w g n pt nm st))
    (hi : i < n) (hyes : Hid (((nm i).toList == q.toList) = true)) (hno : Hid (∀ j, j < i → ((nm j).toList == q.toList) = false)) :
    Calls Yba.prog 10 #[.slice (some ⟨g, 0, Option.none⟩) n c, .string q] w fun e w' => e = .returned (.int .i64 (st i)) ∧ Below w.heap.size w w' := by
  have hR1 : Hid (∀ o, Rowed (w.alloc o) g n pt nm st) := fun o => rowed_alloc hR.out o
  have hc0 := fun o => ((hR1.out o) i hi).1
  have hc2 := fun o => ((hR1.out o) i hi).2.2
  go_enter Yba.func10, Yba.ntmps10
  go_wp2_with fail
  refine (index_at g n c w.heap.size i pt nm st q _ hn (hR1.out _) ?_ hi hyes hno).mono ?_
  · simp
  rintro e w' ⟨rfl, m, rfl⟩
  go_wp2
  go_ret
  exact ⟨rfl, below_drewN ((Below.refl _ _).alloc (Nat.le_refl _) _) _⟩

set_option maxHeartbeats 400000 in
/-- errorStatus where no entry bears that name. -/
theorem status_none (g n c : Nat) (pt : Nat → Nat) (nm : Nat → ByteArray) (st : Nat → Int) (q : ByteArray) (w : World) (hn : n ≤ 1024) (hR : Hid (Rowed w g n pt nm st))
    (hno : Hid (∀ j, j < n → ((nm j).toList == q.toList) = false)) :
    Calls Yba.prog 10 #[.slice (some ⟨g, 0, Option.none⟩) n c, .string q] w fun e w' => e = .returned (.int .i64 0) ∧ Below w.heap.size w w' := by
  have hR1 : Hid (∀ o, Rowed (w.alloc o) g n pt nm st) := fun o => rowed_alloc hR.out o
  go_enter Yba.func10, Yba.ntmps10
  go_wp2_with fail
  refine (index_none g n c w.heap.size pt nm st q _ hn (hR1.out _) ?_ hno).mono ?_
  · simp
  rintro e w' ⟨rfl, m, rfl⟩
  go_wp2
  go_ret
  exact ⟨rfl, below_drewN ((Below.refl _ _).alloc (Nat.le_refl _) _) _⟩

/-- What ErrorStatus answers over entries: the status of the first of that name, or 0. -/
def Answer (n : Nat) (nm : Nat → ByteArray) (st : Nat → Int) (q : ByteArray) (x : Int) : Prop :=
  (∃ i, i < n ∧ ((nm i).toList == q.toList) = true ∧ (∀ j, j < i → ((nm j).toList == q.toList) = false) ∧ x = st i) ∨ ((∀ j, j < n → ((nm j).toList == q.toList) = false) ∧ x = 0)

theorem status_any (g n c : Nat) (pt : Nat → Nat) (nm : Nat → ByteArray) (st : Nat → Int) (q : ByteArray) (x : Int) (w : World) (hn : n ≤ 1024) (hR : Hid (Rowed w g n pt nm st)) (hA : Answer n nm st q x) :
    Calls Yba.prog 10 #[.slice (some ⟨g, 0, Option.none⟩) n c, .string q] w fun e w' => e = .returned (.int .i64 x) ∧ Below w.heap.size w w' := by
  rcases hA with ⟨i, hi, hy, hno, rfl⟩ | ⟨hno, rfl⟩
  · exact status_at g n c i pt nm st q w hn hR hi hy hno
  · exact status_none g n c pt nm st q w hn hR hno

set_option maxHeartbeats 400000 in
/-- ErrorStatus at a receiver that is not nil. -/
theorem es_some (hb g n c : Nat) (pt : Nat → Nat) (nm : Nat → ByteArray) (st : Nat → Int) (q : ByteArray) (x : Int) (w : World) (hn : n ≤ 1024) (hR : Hid (Rowed w g n pt nm st)) (hA : Hid (Answer n nm st q x))
    (hh : w.cell? ⟨hb, 0, Option.none⟩ = some (.slice (some ⟨g, 0, Option.none⟩) n c)) :
    Calls Yba.prog 6 #[.pointer (some ⟨hb, 0, Option.none⟩), .string q] w fun e w' => e = .returned (.int .i64 x) ∧ Below w.heap.size w w' := by
  go_enter Yba.func6, Yba.ntmps6
  go_wp2_with (go_at_call 10; refine (status_any g n c pt nm st q x _ hn hR hA.out).mono ?_; rintro e w' ⟨rfl, hbel⟩)
  go_ret
  exact ⟨rfl, hbel⟩

/-- ErrorStatus at a nil receiver. -/
theorem es_nil (q : ByteArray) (w : World) :
    Calls Yba.prog 6 #[.pointer Option.none, .string q] w fun e w' => e = .returned (.int .i64 0) ∧ w' = w := by
  go_enter Yba.func6, Yba.ntmps6
  go_wp2
  go_ret
  exact ⟨rfl, rfl⟩

theorem answer_ex (n : Nat) (nm : Nat → ByteArray) (st : Nat → Int) (q : ByteArray) : ∃ x, Answer n nm st q x := by
  by_cases h : ∃ i, i < n ∧ ((nm i).toList == q.toList) = true
  · -- the least such place
    have key : ∀ k, (∃ i, i < k ∧ ((nm i).toList == q.toList) = true) → ∃ i, i < k ∧ ((nm i).toList == q.toList) = true ∧ ∀ j, j < i → ((nm j).toList == q.toList) = false := by
      intro k
      induction k with
      | zero => rintro ⟨i, hi, _⟩; omega
      | succ k ih =>
        rintro ⟨i, hi, hy⟩
        by_cases hk : ∃ i, i < k ∧ ((nm i).toList == q.toList) = true
        · obtain ⟨i', h1, h2, h3⟩ := ih hk
          exact ⟨i', by omega, h2, h3⟩
        · have hik : i = k := by
            rcases Nat.lt_or_ge i k with h | h
            · exact absurd ⟨i, h, hy⟩ hk
            · omega
          subst hik
          refine ⟨i, hi, hy, fun j hj => ?_⟩
          rw [Bool.eq_false_iff]
          intro hc
          exact hk ⟨j, hj, hc⟩
    obtain ⟨i, h1, h2, h3⟩ := key n h
    exact ⟨st i, .inl ⟨i, h1, h2, h3, rfl⟩⟩
  · refine ⟨0, .inr ⟨fun j hj => ?_, rfl⟩⟩
    rw [Bool.eq_false_iff]
    intro hc
    exact h ⟨j, hj, hc⟩
end Go.Proofs.Ybulkdfnw.Find
