/-
  The walk of LawS5339BBuilt.
-/
import Derived.Test.YbulkdfnwCap
import Derived.Below
namespace Go.Proofs.Ybulkdfnw.Built
open Go.RowKit Cap
theorem info5 : (Yba.prog.info? 5).map (fun i => (i.zero, i.size, i.bytes)) = some (some (.int .u8 0), 1, 1) := by kernel_rfl

/-- Bytes as cells. -/
def cellsOf (l : List UInt8) : List Value := l.map fun b => .int .u8 (b.toNat : Int)

def goodS : ByteArray := ⟨#[97, 98, 99, 100, 101, 102, 103, 104, 105, 106, 107, 108, 109, 110, 111, 112, 113, 114, 115, 116, 117, 118, 119, 120, 121, 122, 65, 66, 67, 68, 69, 70, 71, 72, 73, 74, 75, 76, 77, 78, 79, 80, 81, 82, 83, 84, 85, 86, 87, 88, 89, 90, 48, 49, 50, 51, 52, 53, 54, 55, 56, 57, 95]⟩
def badS : ByteArray := ⟨#[45, 46, 32, 33, 36, 60, 62, 63, 0, 127, 128, 195, 255]⟩

theorem good_ok : ∀ m : Fin 63, ok8 (goodS[m.val]'(Nat.lt_of_lt_of_le m.isLt (by decide))) = true := by decide
theorem bad_no : ∀ m : Fin 13, ok8 (badS[m.val]'(Nat.lt_of_lt_of_le m.isLt (by decide))) = false := by decide

theorem cellsOf_length (l : List UInt8) : (cellsOf l).length = l.length := by simp [cellsOf]
theorem cellsOf_append (l m : List UInt8) : cellsOf (l ++ m) = cellsOf l ++ cellsOf m := by simp [cellsOf]
theorem cellsOf_one (l : List UInt8) : ∀ u ∈ cellsOf l, u.oneCell' = true := by
  intro u hu
  obtain ⟨_, _, rfl⟩ := List.mem_map.1 hu
  rfl

/-- 'string(b)' of a row of bytes that the call owns. -/
theorem conv_own {w : World} {B g n cap : Nat} {bl : List UInt8} (hown : w.ownsRow B 5 1 (.slice (some ⟨g, 0, none⟩) n cap) n (cellsOf bl)) (hl : bl.length = n) :
    (convert 39 9 (.slice (some ⟨g, 0, none⟩) n cap)).run Yba.prog w = .ok (.string ⟨bl.toArray⟩) w := by
  subst hl
  refine run_convert_bytes_back w 39 9 5 _ cap bl Yba.underlying39 Yba.underlying5 Yba.underlying9 fun j hj => ?_
  exact hown.cells rfl j _ (by simp [cellsOf, hj])

/-- isCaptureName, and what it leaves of the world. -/
theorem cap_grown (w : World) (s : ByteArray) :
    Calls Yba.prog 9 #[.string s] w fun e w' => e = .returned (.bool (capB s)) ∧ w.grownBy w' Option.none := by
  refine (cap_any w s).mono fun e w' ⟨h1, h2⟩ => ⟨h1, ?_⟩
  rcases h2 with rfl | ⟨pos, rfl⟩
  · exact World.grownBy.refl _ _
  · exact World.grownBy_alloc _ _ _

theorem capB_all {bl : List UInt8} (h : bl.all ok8 = true) : capB ⟨bl.toArray⟩ = decide (0 < (bl.length : Int)) := by
  cases bl with
  | nil => rfl
  | cons a l => simp only [capB, h]; simp

theorem capB_mem {bl : List UInt8} {c : UInt8} (hc : c ∈ bl) (h : ok8 c = false) : capB ⟨bl.toArray⟩ = false := by
  unfold capB
  rw [Bool.and_eq_false_iff]
  right
  rw [List.all_eq_false]
  exact ⟨c, hc, by simp [h]⟩

theorem own_cell {w : World} {B g n cap : Nat} {bl : List UInt8} (hown : w.ownsRow B 5 1 (.slice (some ⟨g, 0, Option.none⟩) n cap) n (cellsOf bl)) (j : Nat) (u : Value) (h : (cellsOf bl)[j]? = some u) : w.cell? ⟨g, j, Option.none⟩ = some u := by
  have := hown.cells rfl j u h
  rw [Addr.add_lit, Nat.zero_add] at this
  exact this

theorem own_take {w : World} {B g n cap p : Nat} {bl : List UInt8} (hown : w.ownsRow B 5 1 (.slice (some ⟨g, 0, Option.none⟩) n cap) n (cellsOf bl)) :
    ∀ ad, some (⟨g, 0, Option.none⟩ : Addr) = some ad → ∀ j u, (cellsOf (bl.take p))[j]? = some u → w.cell? (ad.add j) = some u := by
  intro ad had j u hu
  obtain rfl := Option.some.inj had
  have h2 : (cellsOf bl)[j]? = some u := by
    have e : cellsOf (bl.take p) = (cellsOf bl).take p := by simp [cellsOf, List.map_take]
    rw [e, List.getElem?_take] at hu
    split at hu
    · exact hu
    · cases hu
  rw [Addr.add_lit, Nat.zero_add]
  exact own_cell hown j u h2

theorem own_drop {w : World} {B g n cap p : Nat} {bl : List UInt8} (hown : w.ownsRow B 5 1 (.slice (some ⟨g, 0, Option.none⟩) n cap) n (cellsOf bl)) {ao : Option Addr} (hao : ao = some ⟨g, p, Option.none⟩) :
    ∀ ad, ao = some ad → ∀ j u, (cellsOf (bl.drop p))[j]? = some u → w.cell? (ad.add j) = some u := by
  intro ad had j u hu
  rw [hao] at had
  obtain rfl := Option.some.inj had
  have h2 : (cellsOf bl)[p + j]? = some u := by
    have e : cellsOf (bl.drop p) = (cellsOf bl).drop p := by simp [cellsOf, List.map_drop]
    rw [e, List.getElem?_drop] at hu
    exact hu
  rw [Addr.add_lit]
  exact own_cell hown (p + j) u h2

set_option maxRecDepth 1000000 in
set_option maxHeartbeats 1000000 in
theorem walk_le (a0 : Option Addr) (len0 cap0 : Nat) (z0 : List Int) (a1 a2 : Int) (w : World) (hlen : len0 ≤ 1024)
    (hcase : Hid (len0 = 0 ∨ ∃ b off, a0 = some ⟨b, off, Option.none⟩ ∧ b < w.heap.size ∧ ∀ i, i < len0 → w.cell? ⟨b, off + i, Option.none⟩ = some (.int .u8 (z0.getD i 0))))
    (hz : ∀ i, 0 ≤ z0.getD i 0 ∧ z0.getD i 0 ≤ 255) (h1 : 0 ≤ a1) (h1' : a1 ≤ 255) (h2 : 0 ≤ a2) (h2' : a2 ≤ 65535) :
    Calls Yba.prog 5 #[.slice a0 len0 cap0, .int .u8 a1, .int .u16 a2] w fun e w' => e = .returned (.bool true) ∧ Below w.heap.size w w' := by
  obtain ⟨i0, hi, hz0, hz1, hz2⟩ := info_parts info5
  have HZ : Hid (∀ i, 0 ≤ z0.getD i 0 ∧ z0.getD i 0 ≤ 255) := hz
  clear hz
  go_enter Yba.func5, Yba.ntmps5
  go_wp2_with (at_make; refine wpList_make_own _ rfl _ _ 39 rfl w.heap.size 5 i0 (.int .u8 0) 1 Yba.underlying39 hi hz0 hz1 _ _ _ (len0 + 1) rfl rfl (by omega) ?b2 ?b3 (Nat.le_refl _) ?_)
  case b2 => rw [hz2]; omega
  case b3 => unfold maxLen; omega
  intro wb hown0 hgrow0
  go_wp2
  go_loopw [7, 8] (fun v i wr => ∃ (k : Nat) (bl : List UInt8), k ≤ len0 ∧ i = .int .i64 k ∧ v = .slice (some ⟨w.heap.size, 0, Option.none⟩) k (len0 + 1) ∧ Hid (bl.length = k) ∧ Hid (bl.all ok8 = true) ∧
     wr.ownsRow w.heap.size 5 1 (.slice (some ⟨w.heap.size, 0, Option.none⟩) k (len0 + 1)) k (cellsOf bl) ∧ Below w.heap.size w wr ∧ w.heap.size < wr.heap.size) (fun _ i _ => len0 - (intOf i).toNat)
  case atStart => exact ⟨0, [], Nat.zero_le _, rfl, rfl, rfl, rfl, hown0, (Below.refl _ _).grown hgrow0 (Nat.le_refl _) (fun k h => by cases h), (hown0.lt _ rfl).2⟩
  case round =>
    obtain ⟨k, bl, hk, rfl, rfl, hbl, hall, hown, hnx, hsz⟩ := hrel
    by_cases hlt : k < len0
    · obtain ⟨b, off, rfl, hb, hc0⟩ := hcase.out.resolve_left (by omega)
      have hc : wr.cell? ⟨b, off + k, Option.none⟩ = some (.int .u8 (z0.getD k 0)) := (hnx.cell (by exact hb)).trans (hc0 k hlt)
      obtain ⟨z, hzz⟩ : ∃ z : Int, z = z0.getD k 0 := ⟨_, rfl⟩
      have hzb := HZ.out k
      rw [← hzz] at hc hzb
      obtain ⟨hzb1, hzb2⟩ := hzb
      obtain ⟨m, hm⟩ : ∃ m : Nat, z % 63 = (m : Int) := ⟨(z % 63).toNat, by omega⟩
      have hm63 : m < 63 := by omega
      have hok : Hid (ok8 (goodS[m]'(Nat.lt_of_lt_of_le hm63 (by decide))) = true) := good_ok ⟨m, hm63⟩
      clear hzz hc0 hcase
      go_wp2_with (at_builtin; refine wpList_append_fits _ rfl (.tmp 25) (.tmp 33) 39 rfl w.heap.size 5 i0 1 Yba.underlying39 hi hz1 w.heap.size k (len0 + 1) _ rfl (hown.alloc _) ⟨wr.heap.size, 0, Option.none⟩ 1 1 (cellsOf [goodS[m]'(Nat.lt_of_lt_of_le hm63 (by decide))]) rfl rfl ?c1 ?c2 (by omega) ?_)
      case c1 => exact cell_one_new _ _ _
      case c2 => exact cellsOf_one _
      intro w1 hown1 hgrow1
      go_wp2
      go_roundw
      case rel =>
        exact ⟨k + 1, bl ++ [goodS[m]'(Nat.lt_of_lt_of_le hm63 (by decide))], by omega, by go_num, rfl, by have := hbl.out; show List.length _ = _; simp [this], by have := hall.out; show List.all _ _ = _; rw [List.all_append, this]; simp [hok.out], by rw [cellsOf_append]; exact hown1,
          (hnx.alloc hnx.size _).grown hgrow1 (by simp; omega) (fun k hk => by cases hk; exact Nat.le_refl _), by have := hgrow1.size; simp at this; omega⟩
      case measure => simp [intOf]; omega
    · obtain rfl : k = len0 := by omega
      have hconv := conv_own hown hbl.out
      have hcb : capB ⟨bl.toArray⟩ = decide (0 < (k : Int)) := by rw [capB_all hall.out, hbl.out]
      obtain ⟨p, hp⟩ : ∃ p : Nat, a2 % ((k : Int) + 1) = (p : Int) := ⟨(a2 % ((k : Int) + 1)).toNat, by have := Int.emod_nonneg a2 (b := (k : Int) + 1) (by omega); omega⟩
      have hpk : p ≤ k := by have := Int.emod_lt_of_pos a2 (b := (k : Int) + 1) (by omega); omega
      obtain ⟨q, hq⟩ : ∃ q : Nat, a1 % 13 = (q : Int) := ⟨(a1 % 13).toNat, by omega⟩
      have hq13 : q < 13 := by omega
      have hno : Hid (ok8 (badS[q]'(Nat.lt_of_lt_of_le hq13 (by decide))) = false) := bad_no ⟨q, hq13⟩
      clear hcase HZ
      go_wp2_with fail
      refine (cap_grown _ _).mono ?_
      rintro e w1 ⟨rfl, hg1⟩
      have hown1 := hown.kept hg1 (.inr (by simp [Value.ownBlock]))
      have hnx1 : Below w.heap.size w w1 := hnx.grown hg1 hnx.size (fun k h => by cases h)
      have hsz1 : w.heap.size < w1.heap.size := Nat.lt_of_lt_of_le hsz hg1.size
      clear hconv hown hnx hsz hg1 hown0 hgrow0
      go_wp2_with (at_make; refine wpList_make_own _ rfl _ _ 39 rfl w1.heap.size 5 i0 (.int .u8 0) 1 Yba.underlying39 hi hz0 hz1 _ _ _ (k + 1) rfl rfl (by omega) ?b4 ?b5 (Nat.le_refl _) ?_)
      case b4 => rw [hz2]; omega
      case b5 => unfold maxLen; omega
      intro w2 hs2 hg2
      have hown2 := hown1.kept hg2 (.inr (by simp [Value.ownBlock]))
      have hbk := hbl.out
      have hlt2 : Hid ((bl.take p).length = p) := by show List.length _ = _; rw [List.length_take, hbk]; omega
      have hlt3 : Hid ((bl.drop p).length = k - p) := by show List.length _ = _; rw [List.length_drop, hbk]
      clear hbk hown1
      go_wp2_with (at_builtin; refine wpList_append_fits_any _ rfl (.tmp 56) (.tmp 59) 39 rfl w1.heap.size 5 i0 1 Yba.underlying39 hi hz1 w1.heap.size 0 (k + 1) _ rfl hs2 _ p _ (cellsOf (bl.take p)) rfl ?d1 ?d2 ?d3 (cellsOf_one _) (by omega) ?_)
      case d1 => rw [cellsOf_length, hlt2.out]; omega
      case d2 => intro h; cases h
      case d3 => exact own_take hown2
      intro w3 hs3 hg3
      have hown3 := hown2.kept hg3 (.inr (by simp [Value.ownBlock]; omega))
      have hg13 : Below w.heap.size w w3 := (hnx1.grown hg2 hnx1.size (fun k h => by cases h)).grown hg3 (Nat.le_trans hnx1.size hg2.size) (fun k hk => by cases hk; omega)
      have hz3 : w1.heap.size < w3.heap.size := (hs3.lt _ rfl).2
      clear hown2 hg2 hg3 hs2 hnx1
      go_wp2_with (at_builtin; refine wpList_append_fits _ rfl (.tmp 61) (.tmp 63) 39 rfl w1.heap.size 5 i0 1 Yba.underlying39 hi hz1 w1.heap.size p (k + 1) _ rfl (hs3.alloc _) ⟨w3.heap.size, 0, Option.none⟩ 1 1 (cellsOf [badS[q]'(Nat.lt_of_lt_of_le hq13 (by decide))]) rfl rfl ?e1 ?e2 (by omega) ?_)
      case e1 => exact cell_one_new _ _ _
      case e2 => exact cellsOf_one _
      intro w4 hs4 hg4
      have hown4 := (hown3.alloc _).kept hg4 (.inr (by simp [Value.ownBlock]; omega))
      have hb4 : Below w.heap.size w w4 := (hg13.alloc hg13.size _).grown hg4 (by simp; omega) (fun k hk => by cases hk; omega)
      clear hown3 hg4 hs3 hg13
      go_wp2_with (at_builtin; refine wpList_append_fits_any _ rfl (.tmp 65) (.tmp 68) 39 rfl w1.heap.size 5 i0 1 Yba.underlying39 hi hz1 w1.heap.size (p + 1) (k + 1) _ rfl hs4 _ (k - p) _ (cellsOf (bl.drop p)) rfl ?g1 ?g2 ?g3 (cellsOf_one _) (by omega) ?_)
      case g1 => rw [cellsOf_length, hlt3.out]; omega
      case g2 => intro h; cases h
      case g3 => exact own_drop hown4 rfl
      intro w5 hs5 hg5
      have hb5 : Below w.heap.size w w5 := hb4.grown hg5 hb4.size (fun k hk => by cases hk; omega)
      have hcs : cellsOf (List.take p bl) ++ (cellsOf [badS[q]'(Nat.lt_of_lt_of_le hq13 (by decide))] ++ cellsOf (List.drop p bl)) = cellsOf (List.take p bl ++ ([badS[q]'(Nat.lt_of_lt_of_le hq13 (by decide))] ++ List.drop p bl)) := by rw [cellsOf_append, cellsOf_append]
      rw [hcs] at hs5
      clear hcs
      have hl5 : Hid ((List.take p bl ++ ([badS[q]'(Nat.lt_of_lt_of_le hq13 (by decide))] ++ List.drop p bl)).length = p + 1 + (k - p)) := by
        show List.length _ = _
        rw [List.length_append, List.length_append, hlt2.out, hlt3.out]; simp; omega
      have hmem : Hid (badS[q]'(Nat.lt_of_lt_of_le hq13 (by decide)) ∈ List.take p bl ++ ([badS[q]'(Nat.lt_of_lt_of_le hq13 (by decide))] ++ List.drop p bl)) := by
        show _ ∈ _
        simp
      obtain ⟨fl, hfl⟩ : ∃ fl : List UInt8, fl = List.take p bl ++ ([badS[q]'(Nat.lt_of_lt_of_le hq13 (by decide))] ++ List.drop p bl) := ⟨_, rfl⟩
      rw [← hfl] at hs5 hl5 hmem
      have hconv := conv_own hs5 hl5.out
      have hcf : capB ⟨fl.toArray⟩ = false := capB_mem hmem.out hno.out
      clear hfl hcb
      go_wp2_with (go_at_call 9; refine (cap_grown _ _).mono ?_; rintro e w6 ⟨rfl, hg6⟩)
      go_ret
      exact ⟨rfl, hb5.grown hg6 hb5.size (fun k h => by cases h)⟩
end Go.Proofs.Ybulkdfnw.Built
