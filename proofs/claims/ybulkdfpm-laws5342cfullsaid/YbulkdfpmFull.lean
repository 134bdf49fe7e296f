/-
  The walk of LawS5342CFull.
-/
import Derived.Test.YbulkdfpmNames
namespace Go.Proofs.Ybulkdfpm.Tab
open Go.RowKit Go.Maps Go.WideMaps

/-- The table and the model hold the first m names; the two rows lie apart; old memory is as it was. -/
def St (w wr : World) (ao : Option Addr) (m cap : Nat) : Prop :=
  ∃ v D, Table wr w.heap.size (w.heap.size + 1) w.heap.size v D (namesTo m) ∧ wr.ownsRow w.heap.size 9 1 (.slice ao m cap) m ((namesTo m).map Value.string) ∧
    ((Value.slice ao m cap).ownBlock = none ∨ (Value.slice ao m cap).ownBlock ≠ v.ownBlock) ∧ Below w.heap.size w wr

theorem St.alloc {w wr : World} {ao : Option Addr} {m cap : Nat} (h : St w wr ao m cap) (o : Obj) : St w (wr.alloc o) ao m cap := by
  obtain ⟨v, D, h1, h2, h3, h4⟩ := h
  exact ⟨v, D, h1.alloc o, h2.alloc o, h3, h4.alloc h4.size o⟩

theorem St.found {w wr : World} {ao : Option Addr} {m cap i : Nat} (h : St w wr ao m cap) (hi : i < m) :
    Calls Yba.prog 10 #[.pointer (some ⟨w.heap.size + 1, 0, none⟩), .string (nameOf i)] wr fun e w' => e = .returned (.tuple #[.int .i64 (i : Int), .bool true]) ∧ w' = wr := by
  obtain ⟨v, D, h1, h2, h3, h4⟩ := h
  have hil : i < (namesTo m).length := by rw [namesTo_length]; exact hi
  have hc := slot_found h1 hil (by rw [namesTo_at hil, nameOf_size]; unfold maxLen; omega)
  rw [namesTo_at hil] at hc
  exact hc

theorem St.full {w wr : World} {ao : Option Addr} {m cap i : Nat} (h : St w wr ao m cap) (hm : m = 1024) (hi : m ≤ i) (h10 : i < 10000) :
    Calls Yba.prog 10 #[.pointer (some ⟨w.heap.size + 1, 0, none⟩), .string (nameOf i)] wr fun e w' => e = .returned (.tuple #[.int .i64 0, .bool false]) ∧ w' = wr := by
  obtain ⟨v, D, h1, h2, h3, h4⟩ := h
  exact slot_full h1 (namesTo_not hi h10) (by rw [nameOf_size]; unfold maxLen; omega) (by rw [namesTo_length]; exact hm)

theorem St.start (w : World) : St w ((w.alloc (.map #[] 0)).alloc (.cells #[.map (some w.heap.size), .slice none 0 0] 65)) none 0 0 := by
  refine ⟨.slice none 0 0, .map [], ⟨?_, ?_, ?_, Tab.empty, by omega, by omega⟩, World.ownsRow_nil _ _ _ _, .inl rfl, ((Below.refl _ _).alloc (Nat.le_refl _) _).alloc (by simp) _⟩
  · have hnew := heap_alloc_new (w.alloc (.map #[] 0)) (.cells #[.map (some w.heap.size), .slice none 0 0] 65)
    have e : (w.alloc (.map #[] 0)).heap.size = w.heap.size + 1 := by simp
    rw [e] at hnew
    exact hnew
  · exact (World.ownsMap_made w _ _ _).alloc _
  · exact World.ownsRow_nil _ _ _ _

/-- The table has taken the next name; the model not yet. -/
def Half (w wr : World) (ao : Option Addr) (m cap : Nat) : Prop :=
  ∃ v D, Table wr w.heap.size (w.heap.size + 1) w.heap.size v D (namesTo (m + 1)) ∧ wr.ownsRow w.heap.size 9 1 (.slice ao m cap) m ((namesTo m).map Value.string) ∧
    ((Value.slice ao m cap).ownBlock = none ∨ (Value.slice ao m cap).ownBlock ≠ v.ownBlock) ∧ Below w.heap.size w wr

theorem St.next {w wr : World} {ao : Option Addr} {m cap : Nat} (h : St w wr ao m cap) (hm : m < 1024) :
    Calls Yba.prog 10 #[.pointer (some ⟨w.heap.size + 1, 0, none⟩), .string (nameOf m)] wr fun e w' => e = .returned (.tuple #[.int .i64 (m : Int), .bool true]) ∧ Half w w' ao m cap := by
  obtain ⟨v, D, h1, h2, h3, h4⟩ := h
  refine (slot_new_m (namesTo_length m).symm h1 (namesTo_not (Nat.le_refl _) (by omega)) (by rw [nameOf_size]; unfold maxLen; omega) hm h4.size).mono ?_
  rintro e w' ⟨rfl, v', D', h5, h6⟩
  rw [← namesTo_succ] at h5
  obtain ⟨h7, h8⟩ := h6.row h1 h2 h3
  exact ⟨rfl, v', D', h5, h7, h8, h4.trans (h6.below h1)⟩

theorem Half.row {w wr : World} {ao : Option Addr} {m cap : Nat} (h : Half w wr ao m cap) : wr.ownsRow w.heap.size 9 1 (.slice ao m cap) m ((namesTo m).map Value.string) ∧ w.heap.size ≤ wr.heap.size := by
  obtain ⟨v, D, h1, h2, h3, h4⟩ := h
  exact ⟨h2, h4.size⟩

theorem Half.step {w wr w1 : World} {ao : Option Addr} {m cap g cap' : Nat} {x : Value} (h : Half w wr ao m cap) (hg1 : (wr.alloc (.cells #[x] 9)).grownBy w1 (Value.slice ao m cap).ownBlock) (hpl : some g = (Value.slice ao m cap).ownBlock ∨ g = wr.heap.size + 1)
    (hrow : w1.ownsRow w.heap.size 9 1 (.slice (some ⟨g, 0, none⟩) (m + 1) cap') (m + 1) ((namesTo m).map Value.string ++ [.string (nameOf m)])) : St w w1 (some ⟨g, 0, none⟩) (m + 1) cap' := by
  obtain ⟨v, D, h1, h2, h3, h4⟩ := h
  obtain ⟨h5, h6, h7⟩ := model_step (c := cap') h1 h2 h3 h4 hg1 hpl
  refine ⟨v, D, h5, ?_, h6, h7⟩
  rw [namesTo_succ]
  simpa using hrow

set_option maxRecDepth 1000000 in
set_option maxHeartbeats 1000000 in
theorem full_any (n0 : Int) (w : World) (h0 : 0 ≤ n0) (h1 : n0 ≤ 255) :
    Calls Yba.prog 6 #[.int .u8 n0] w fun e w' => e = .returned (.bool true) ∧ Below w.heap.size w w' := by
  obtain ⟨i9, hi, hz0, hz1, hz2⟩ := info_parts info9
  obtain ⟨c, hc⟩ : ∃ c : Nat, 1000 + n0 % 64 = (c : Int) := ⟨(1000 + n0 % 64).toNat, by omega⟩
  have hc1 : 1000 ≤ c := by omega
  have hc2 : c ≤ 1063 := by omega
  go_enter Yba.func6, Yba.ntmps6
  go_wp2_with (go_at_call 9; refine (new_any _).mono ?_; rintro e w' ⟨rfl, rfl⟩)
  go_loopw [5, 6] (fun mvv t wr => ∃ (r m cap : Nat) (ao : Option Addr), r ≤ 2 ∧ t = .int .i64 r ∧ mvv = .slice ao m cap ∧ m ≤ 1024 ∧ Hid ((r = 0 → m = 0) ∧ (0 < r → m = min c 1024)) ∧ Hid (St w wr ao m cap)) (fun _ t _ => 2 - (intOf t).toNat)
  case atStart => exact ⟨0, 0, 0, none, Nat.zero_le _, rfl, rfl, Nat.zero_le _, ⟨fun _ => rfl, fun h => by omega⟩, St.start w⟩
  case round =>
    obtain ⟨r, m, cap, ao, hr, rfl, rfl, hm, hrm, hst⟩ := hrel
    have hcase : r = 0 ∨ r = 1 ∨ r = 2 := by omega
    rcases hcase with rfl | rfl | rfl
    · obtain rfl : m = 0 := hrm.out.1 rfl
      clear hm hrm
      obtain ⟨wo, hwo⟩ : ∃ wo : World, wo = wr := ⟨_, rfl⟩
      subst hwo
      go_wp2
      go_loopw [5, 7] (fun mvv t wx => ∃ (i m cap : Nat) (ao : Option Addr), i ≤ c ∧ t = .int .i64 i ∧ mvv = .slice ao m cap ∧ m ≤ 1024 ∧ Hid (m = min i 1024) ∧ Hid (St w wx ao m cap)) (fun _ t _ => c - (intOf t).toNat)
      case atStart => exact ⟨0, 0, cap, ao, Nat.zero_le _, rfl, rfl, Nat.zero_le _, by show _ = _; omega, hst⟩
      case round =>
        clear hst
        obtain ⟨i, m, cap, ao, hi', rfl, rfl, hm, him, hst⟩ := hrel
        by_cases hic : i < c
        · by_cases h1024 : i < 1024
          · obtain rfl : m = i := by have := him.out; omega
            go_wp2_with (go_at_call 12; refine (name_any m (by omega) _).mono ?_; rintro e w' ⟨rfl, o, rfl⟩)
            refine ((hst.out.alloc o).next h1024).mono ?_
            rintro e w2 ⟨rfl, hhalf⟩
            have hrow := hhalf.row
            have hH : Hid (Half w w2 ao m cap) := hhalf
            clear hhalf
            go_wp2_with (at_builtin; refine wpList_append_one _ rfl (.tmp 44) (.tmp 46) 49 rfl w.heap.size 9 i9 (.string ByteArray.empty) 16 Yba.underlying49 hi hz0 hz1 hz2 rfl _ _ _ rfl (hrow.1.alloc _) ⟨w2.heap.size, 0, none⟩ 1 (.string (nameOf m)) rfl ?c1 ?c2 ?c3 ?c4 ?c5 ?_)
            case c1 => exact cell_one_new _ _ _
            case c2 => intro u hu; simp at hu; subst hu; rfl
            case c3 => unfold maxLen; omega
            case c4 => omega
            case c5 => have := hrow.2; simp; omega
            intro g cap' w3 hrow3 hg3 hpl
            have hs3 := hH.out.step hg3 hpl hrow3
            clear hrow3 hg3 hpl
            go_wp2
            go_roundw
            case rel => first | exact ⟨m + 1, m + 1, cap', _, by omega, by go_num, rfl, by omega, by show _ = _; omega, hs3⟩ | ((repeat apply Exists.intro); exact ⟨⟨m + 1, m + 1, cap', _, by omega, by go_num, rfl, by omega, by show _ = _; omega, hs3⟩, rfl⟩)
            case measure => simp [intOf]; omega
          · have hm4 : Hid (m = 1024) := by have := him.out; show _ = _; omega
            go_wp2_with (first | (go_at_call 12; refine (name_any i (by omega) _).mono ?_; rintro e w' ⟨rfl, o, rfl⟩) | (go_at_call 10; refine ((hst.out.alloc _).full hm4.out (by have := hm4.out; omega) (by omega)).mono ?_; rintro e w' ⟨rfl, rfl⟩))
            go_roundw
            case rel => first | exact ⟨i + 1, m, cap, ao, by omega, by go_num, rfl, hm, by have := hm4.out; show _ = _; omega, hst.out.alloc _⟩ | ((repeat apply Exists.intro); exact ⟨⟨i + 1, m, cap, ao, by omega, by go_num, rfl, hm, by have := hm4.out; show _ = _; omega, hst.out.alloc _⟩, rfl⟩)
            case measure => simp [intOf]; omega
        · go_wp2
          go_roundw
          case rel => exact ⟨1, m, cap, ao, by omega, rfl, rfl, hm, ⟨fun h => by omega, fun _ => by have := him.out; omega⟩, hst⟩
          case measure => simp [intOf]
    · have hmF : Hid (m = min c 1024) := hrm.out.2 (by omega)
      clear hrm
      obtain ⟨wo, hwo⟩ : ∃ wo : World, wo = wr := ⟨_, rfl⟩
      subst hwo
      go_wp2
      go_loopw [5, 7] (fun mvv t wx => ∃ (i : Nat), i ≤ c ∧ t = .int .i64 i ∧ mvv = .slice ao m cap ∧ Hid (St w wx ao m cap)) (fun _ t _ => c - (intOf t).toNat)
      case atStart => exact ⟨0, Nat.zero_le _, rfl, rfl, hst⟩
      case round =>
        clear hst
        obtain ⟨i, hi', rfl, rfl, hst⟩ := hrel
        by_cases hic : i < c
        · by_cases h1024 : i < 1024
          · have hlt : i < m := by have := hmF.out; omega
            go_wp2_with (first | (go_at_call 12; refine (name_any i (by omega) _).mono ?_; rintro e w' ⟨rfl, o, rfl⟩) | (go_at_call 10; refine ((hst.out.alloc _).found hlt).mono ?_; rintro e w' ⟨rfl, rfl⟩))
            go_roundw
            case rel => first | exact ⟨i + 1, by omega, by go_num, rfl, hst.out.alloc _⟩ | ((repeat apply Exists.intro); exact ⟨⟨i + 1, by omega, by go_num, rfl, hst.out.alloc _⟩, rfl⟩)
            case measure => simp [intOf]; omega
          · have hm4 : Hid (m = 1024) := by have := hmF.out; show _ = _; omega
            go_wp2_with (first | (go_at_call 12; refine (name_any i (by omega) _).mono ?_; rintro e w' ⟨rfl, o, rfl⟩) | (go_at_call 10; refine ((hst.out.alloc _).full hm4.out (by have := hm4.out; omega) (by omega)).mono ?_; rintro e w' ⟨rfl, rfl⟩))
            go_roundw
            case rel => first | exact ⟨i + 1, by omega, by go_num, rfl, hst.out.alloc _⟩ | ((repeat apply Exists.intro); exact ⟨⟨i + 1, by omega, by go_num, rfl, hst.out.alloc _⟩, rfl⟩)
            case measure => simp [intOf]; omega
        · go_wp2
          go_roundw
          case rel => exact ⟨2, m, cap, ao, by omega, rfl, rfl, hm, ⟨fun h => by omega, fun _ => hmF.out⟩, hst⟩
          case measure => simp [intOf]
    · have hcall : Hid (Calls Yba.prog 11 #[.pointer (some ⟨w.heap.size + 1, 0, none⟩), .slice ao m cap] wr fun e w' => e = .returned (.bool true) ∧ Below w.heap.size w w') := by
        obtain ⟨v, D, k1, k2, k3, k4⟩ := hst.out
        have k2' : wr.ownsRow w.heap.size 9 1 (.slice ao m cap) (namesTo m).length ((namesTo m).map Value.string) := by rw [namesTo_length]; exact k2
        refine (state_ok k1 k2' (by rw [namesTo_length]; omega) (namesTo_sizes m)).mono ?_
        rintro e w' ⟨rfl, d, rfl⟩
        exact ⟨rfl, below_drewN k4 _⟩
      go_wp2_with (go_at_call 11; refine (hcall.out).mono ?_; rintro e w' ⟨rfl, hb⟩)
      go_ret
      exact ⟨rfl, hb⟩
end Go.Proofs.Ybulkdfpm.Tab
