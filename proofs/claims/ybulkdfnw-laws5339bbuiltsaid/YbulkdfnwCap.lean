/-
  The walks of isAlnum, zzs5339bok and isCaptureName.
-/
import Derived.Test.YbulkdfnwRows
import Derived.Test.YbulkdfnwCapPlain
import Derived.WalkKit
import Derived.WalkSpells
import Derived.WalkLawsBesides
namespace Go.Proofs.Ybulkdfnw.Cap
open Go.RowKit

theorem ret_bool {a b : Bool} (h : a = b) : Ending.returned (.bool a) = .returned (.bool b) := by rw [h]

set_option maxHeartbeats 400000 in
theorem alnum_yes (c : Int) (w : World) (h : AlN c) :
    Calls Yba.prog 11 #[.int .i32 c] w fun e w' => e = .returned (.bool true) ∧ w' = w := by
  unfold AlN at h
  rcases h with ⟨h1, h2⟩ | ⟨h1, h2⟩ | ⟨h1, h2⟩
  all_goals
    go_enter Yba.func11, Yba.ntmps11
    go_wp2
    go_ret
    exact ⟨rfl, rfl⟩

set_option maxHeartbeats 400000 in
theorem alnum_no (c : Int) (w : World) (h : ¬ AlN c) :
    Calls Yba.prog 11 #[.int .i32 c] w fun e w' => e = .returned (.bool false) ∧ w' = w := by
  unfold AlN at h
  have h' : c < 48 ∨ (57 < c ∧ c < 65) ∨ (90 < c ∧ c < 97) ∨ 122 < c := by omega
  clear h
  rcases h' with h1 | ⟨h1, h2⟩ | ⟨h1, h2⟩ | h1
  all_goals
    go_enter Yba.func11, Yba.ntmps11
    go_wp2
    go_ret
    first | exact ⟨rfl, rfl⟩ | exact ⟨ret_bool (by simp; omega), rfl⟩

set_option maxHeartbeats 400000 in
theorem cap_empty (w : World) (s : ByteArray) (hs : s.size = 0) :
    Calls Yba.prog 9 #[.string s] w fun e w' => e = .returned (.bool (capB s)) ∧ w' = w := by
  have hz : s.data.toList = [] := List.eq_nil_of_length_eq_zero (by simpa using hs)
  obtain rfl : s = ByteArray.empty := by
    cases s with | mk d => simp at hz; subst hz; rfl
  clear hs hz
  go_enter Yba.func9, Yba.ntmps9
  go_wp2
  go_ret
  exact ⟨rfl, rfl⟩

theorem isEmpty_of_pos {s : ByteArray} (hs : 0 < s.size) : s.toList.isEmpty = false := by
  rw [ByteArray.toList_eq]
  have h3 : s.size = s.data.toList.length := by simp
  cases hh : s.data.toList with
  | nil => have h4 : s.data.toList.length = 0 := by rw [hh]; rfl
           omega
  | cons a l => rfl

theorem wid_pos (s : ByteArray) (pos : Nat) (h : pos < s.size) : 1 ≤ (Utf8.decode s pos).2 := by
  by_cases ha : (s[pos]'h).toNat < 128
  · rw [decode_ascii s pos h ha]
    exact Nat.le_refl _
  · exact (decode_high s pos h (by omega)).2

set_option maxHeartbeats 1000000 in
theorem cap_some (w : World) (s : ByteArray) (hs : 0 < s.size) :
    Calls Yba.prog 9 #[.string s] w fun e w' => e = .returned (.bool (capB s)) ∧ ∃ pos, w' = w.iter s pos := by
  have hne : s.toList.isEmpty = false := isEmpty_of_pos hs
  go_enter Yba.func9, Yba.ntmps9
  go_wp2
  go_loopw [4] (fun _ w' => ∃ pos : Nat, w' = w.iter s pos ∧ pos ≤ s.size ∧ Hid ((s.data.toList.take pos).all ok8 = true)) (fun _ w' => s.size - w'.iterPos w.heap.size)
  case atStart => exact ⟨0, rfl, Nat.zero_le _, rfl⟩
  case round =>
    obtain ⟨pos, rfl, hle, hall⟩ := hrel
    by_cases hp : pos < s.size
    · by_cases ha : (s[pos]'hp).toNat < 128
      · have hnx : ∀ ty, (Instr.next (.pointer (some ⟨w.heap.size, 0, none⟩)) true ty).run Yba.prog (w.iter s pos) = _ := fun ty => run_next_ascii w s pos ty hp ha
        obtain ⟨n, hn⟩ : ∃ n : Int, n = ((s[pos]'hp).toNat : Int) := ⟨_, rfl⟩
        have HN : Hid (n = ((s[pos]'hp).toNat : Int)) := hn
        rw [← hn] at hnx
        clear hn ha
        by_cases h95 : n = 95
        · subst h95
          have hok : Hid (ok8 s[pos] = true) := ok8_us (by have := HN.out; omega)
          go_wp2
          go_roundw
          case rel => exact ⟨pos + 1, rfl, by omega, all_snoc hp hall hok⟩
          case measure => simp; omega
        · have hb95 : (n == 95) = false := by simpa using h95
          by_cases hal : AlN n
          · have hok : Hid (ok8 s[pos] = true) := ok8_al (by rw [← HN.out]; exact hal)
            go_wp2_with (go_at_call 11; refine (alnum_yes _ _ hal).mono ?_; rintro e w' ⟨rfl, rfl⟩)
            go_roundw
            case rel => exact ⟨pos + 1, rfl, by omega, all_snoc hp hall hok⟩
            case measure => simp; omega
          · have hok : Hid (ok8 s[pos] = false) := ok8_no (by rw [← HN.out]; exact hal) (by have := HN.out; omega)
            go_wp2_with (go_at_call 11; refine (alnum_no _ _ hal).mono ?_; rintro e w' ⟨rfl, rfl⟩)
            go_ret
            exact ⟨ret_bool (capB_bad hp hok).symm, _, rfl⟩
      · have hnx : ∀ ty, (Instr.next (.pointer (some ⟨w.heap.size, 0, none⟩)) true ty).run Yba.prog (w.iter s pos) = _ := fun ty => run_next_any w s pos ty hp
        have hhi := decode_high s pos hp (by omega)
        obtain ⟨n, hn⟩ : ∃ n : Int, n = ((Utf8.decode s pos).1 : Int) := ⟨_, rfl⟩
        have hn128 : 128 ≤ n := by omega
        rw [← hn] at hnx
        have hok : Hid (ok8 s[pos] = false) := ok8_no (by unfold AlN; omega) (by omega)
        have hal : ¬ AlN n := by unfold AlN; omega
        have hb95 : (n == 95) = false := by simp; omega
        clear hn ha hhi
        go_wp2_with (go_at_call 11; refine (alnum_no _ _ hal).mono ?_; rintro e w' ⟨rfl, rfl⟩)
        go_ret
        exact ⟨ret_bool (capB_bad hp hok).symm, _, rfl⟩
    · have hnx : ∀ ty, (Instr.next (.pointer (some ⟨w.heap.size, 0, none⟩)) true ty).run Yba.prog (w.iter s pos) = _ := fun ty => run_next_end w s pos ty hp
      go_wp2
      go_ret
      exact ⟨ret_bool (capB_good hp hs hall).symm, _, rfl⟩

/-- isCaptureName as one contract: what it answers; at most an iterator's block is new. -/
theorem cap_any (w : World) (s : ByteArray) :
    Calls Yba.prog 9 #[.string s] w fun e w' => e = .returned (.bool (capB s)) ∧ (w' = w ∨ ∃ pos, w' = w.iter s pos) := by
  by_cases hs : 0 < s.size
  · exact (cap_some w s hs).mono fun e w' ⟨h1, h2⟩ => ⟨h1, .inr h2⟩
  · exact (cap_empty w s (by omega)).mono fun e w' ⟨h1, h2⟩ => ⟨h1, .inl h2⟩

/-- zzs5339bok: the byte test. -/
theorem ok_walk (b : UInt8) (w : World) :
    Calls Yba.prog 8 #[.int .u8 (b.toNat : Int)] w fun e w' => e = .returned (.bool (ok8 b)) ∧ w' = w := by
  have hlt : (b.toNat : Int) < 256 := by have := b.toNat_lt; omega
  obtain ⟨n, hn⟩ : ∃ n : Int, n = (b.toNat : Int) := ⟨_, rfl⟩
  have HN : Hid (n = (b.toNat : Int)) := hn
  rw [← hn] at hlt ⊢
  clear hn
  by_cases h95 : n = 95
  · have hok : Hid (ok8 b = true) := ok8_us (by have := HN.out; omega)
    subst h95
    go_enter Yba.func8, Yba.ntmps8
    go_wp2
    go_ret
    exact ⟨ret_bool hok.symm, rfl⟩
  · have hb95 : (n == 95) = false := by simpa using h95
    by_cases hal : AlN n
    · have hok : Hid (ok8 b = true) := ok8_al (by rw [← HN.out]; exact hal)
      unfold AlN at hal
      rcases hal with ⟨h1, h2⟩ | ⟨h1, h2⟩ | ⟨h1, h2⟩
      all_goals
        go_enter Yba.func8, Yba.ntmps8
        go_wp2
        go_ret
        rw [hok.out]
        first | exact ⟨rfl, rfl⟩ | exact ⟨ret_bool (by simp; omega), rfl⟩
    · have hok : Hid (ok8 b = false) := ok8_no (by rw [← HN.out]; exact hal) (by have := HN.out; omega)
      unfold AlN at hal
      have h' : n < 48 ∨ (57 < n ∧ n < 65) ∨ (90 < n ∧ n < 97) ∨ 122 < n := by omega
      clear hal
      rcases h' with h1 | ⟨h1, h2⟩ | ⟨h1, h2⟩ | h1
      all_goals
        go_enter Yba.func8, Yba.ntmps8
        go_wp2
        go_ret
        rw [hok.out]
        first | exact ⟨rfl, rfl⟩ | exact ⟨ret_bool (by simp; omega), rfl⟩
end Go.Proofs.Ybulkdfnw.Cap
