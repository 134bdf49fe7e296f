/-
  zzs5342cname: the walk, and that the names differ.
-/
import Derived.Test.YbulkdfpmScript
import Derived.Laws.IdiomStrings
namespace Go.Proofs.Ybulkdfpm.Tab
open Go.RowKit Go.Maps Go.WideMaps

def dig (n : Nat) : UInt8 := UInt8.ofNat (48 + n % 10)
def nameL (i : Nat) : List UInt8 := [35, dig (i / 1000), dig (i / 100), dig (i / 10), dig i]
def nameOf (i : Nat) : ByteArray := ⟨(nameL i).toArray⟩

theorem dig_toNat (n : Nat) : (dig n).toNat = 48 + n % 10 := by
  unfold dig
  rw [UInt8.toNat_ofNat']
  omega

theorem dig_inj {a b : Nat} (h : dig a = dig b) : a % 10 = b % 10 := by
  have h2 := congrArg UInt8.toNat h
  rw [dig_toNat, dig_toNat] at h2
  omega

theorem nameOf_inj {i j : Nat} (hi : i < 10000) (hj : j < 10000) (h : nameOf i = nameOf j) : i = j := by
  have h1 : nameL i = nameL j := by
    have h2 := congrArg (fun s : ByteArray => s.data.toList) h
    simpa [nameOf] using h2
  simp only [nameL, List.cons.injEq, true_and, and_true] at h1
  obtain ⟨h3, h2, h1, h0⟩ := h1
  have := dig_inj h3; have := dig_inj h2; have := dig_inj h1; have := dig_inj h0
  omega

theorem nameOf_size (i : Nat) : (nameOf i).size = 5 := rfl

def namesTo (k : Nat) : List ByteArray := (List.range k).map nameOf
theorem namesTo_length (k : Nat) : (namesTo k).length = k := by simp [namesTo]
theorem namesTo_succ (k : Nat) : namesTo (k + 1) = namesTo k ++ [nameOf k] := by simp [namesTo, List.range_succ]
theorem namesTo_at {k i : Nat} (h : i < (namesTo k).length) : (namesTo k)[i] = nameOf i := by simp [namesTo]
theorem namesTo_not {k i : Nat} (h : k ≤ i) (hi : i < 10000) : nameOf i ∉ namesTo k := by
  intro hm
  obtain ⟨j, hj, e⟩ := List.mem_map.1 hm
  have hjk : j < k := by simpa using hj
  have := nameOf_inj (by omega) hi e
  omega
theorem namesTo_sizes (k : Nat) : ∀ s ∈ namesTo k, s.size ≤ maxLen := by
  intro s hs
  obtain ⟨j, _, rfl⟩ := List.mem_map.1 hs
  rw [nameOf_size]
  unfold maxLen; omega

theorem conv_name (w : World) (i : Nat) :
    (convert 66 9 (.slice (some ⟨w.heap.size, 0, none⟩) 5 5)).run Yba.prog (w.alloc (.cells #[.int .u8 35, .int .u8 ((dig (i / 1000)).toNat : Int), .int .u8 ((dig (i / 100)).toNat : Int), .int .u8 ((dig (i / 10)).toNat : Int), .int .u8 ((dig i).toNat : Int)] 5)) =
      .ok (.string (nameOf i)) (w.alloc (.cells #[.int .u8 35, .int .u8 ((dig (i / 1000)).toNat : Int), .int .u8 ((dig (i / 100)).toNat : Int), .int .u8 ((dig (i / 10)).toNat : Int), .int .u8 ((dig i).toNat : Int)] 5)) := by
  refine run_convert_bytes_back _ 66 9 5 ⟨w.heap.size, 0, none⟩ 5 (nameL i) Yba.underlying66 Yba.underlying5 Yba.underlying9 fun j hj => ?_
  have hj5 : j < 5 := hj
  rw [Addr.add_lit, Nat.zero_add, cell_of_row _ _ j _ 5 (0, 0) (heap_alloc_new w _)]
  match j, hj5 with
  | 0, _ => rfl
  | 1, _ => rfl
  | 2, _ => rfl
  | 3, _ => rfl
  | 4, _ => rfl

set_option maxHeartbeats 400000 in
theorem name_any (i : Nat) (hi : i < 10000) (w : World) :
    Calls Yba.prog 12 #[.int .i64 (i : Int)] w fun e w' => e = .returned (.string (nameOf i)) ∧ ∃ o, w' = w.alloc o := by
  have hconv := conv_name w i
  have e3 : (48 : Int) + (i : Int) / 1000 % 10 = ((dig (i / 1000)).toNat : Int) := by rw [dig_toNat]; omega
  have e2 : (48 : Int) + (i : Int) / 100 % 10 = ((dig (i / 100)).toNat : Int) := by rw [dig_toNat]; omega
  have e1 : (48 : Int) + (i : Int) / 10 % 10 = ((dig (i / 10)).toNat : Int) := by rw [dig_toNat]; omega
  have e0 : (48 : Int) + (i : Int) % 10 = ((dig i).toNat : Int) := by rw [dig_toNat]; omega
  have b3 : (dig (i / 1000)).toNat < 256 := UInt8.toNat_lt _
  have b2 : (dig (i / 100)).toNat < 256 := UInt8.toNat_lt _
  have b1 : (dig (i / 10)).toNat < 256 := UInt8.toNat_lt _
  have b0 : (dig i).toNat < 256 := UInt8.toNat_lt _
  go_enter Yba.func12, Yba.ntmps12
  go_wp2
  go_ret
  exact ⟨rfl, _, rfl⟩
end Go.Proofs.Ybulkdfpm.Tab
