/-
  The walk of LawS5342CScript.
-/
import Derived.Test.YbulkdfpmTab
namespace Go.Proofs.Ybulkdfpm.Tab
open Go.RowKit Go.Maps Go.WideMaps

theorem Tab.inj {D : DataW Unit} {ns : List ByteArray} (h : Tab D ns) {i j : Nat} (hi : i < ns.length) (hj : j < ns.length) (e : ns[i] = ns[j]) : i = j := by
  have h1 := h.look i hi
  rw [e, h.look j hj] at h1
  have h2 : (i : Int) = (j : Int) := by simpa using h1.symm
  omega

/-- The model takes one more name: the table is as it was; the two rows stay apart. -/
theorem model_step {w wr w1 : World} {v mv : Value} {D : DataW Unit} {ns : List ByteArray} {T mb m g : Nat} {x : Value} {c : Nat} {xs : List Value} (htab : Table wr w.heap.size T mb v D ns) (hmod : wr.ownsRow w.heap.size 9 1 mv m xs) (hdis : mv.ownBlock = none ∨ mv.ownBlock ≠ v.ownBlock)
    (hnx : Below w.heap.size w wr) (hg1 : (wr.alloc (.cells #[x] 9)).grownBy w1 mv.ownBlock) (hpl : some g = mv.ownBlock ∨ g = wr.heap.size + 1) :
    Table w1 w.heap.size T mb v D ns ∧ ((Value.slice (some ⟨g, 0, none⟩) (m + 1) c).ownBlock = none ∨ (Value.slice (some ⟨g, 0, none⟩) (m + 1) c).ownBlock ≠ v.ownBlock) ∧ Below w.heap.size w w1 := by
  obtain ⟨es, clock, hmb⟩ := htab.mapAt
  have n1 := row_ne hmod htab.blk (fun c hc => by cases hc)
  have n2 := row_ne hmod hmb (fun c hc => by cases hc)
  refine ⟨(htab.alloc _).kept hg1 (fun e => n1 e.symm) (fun e => n2 e.symm) ?_, .inr ?_, (hnx.alloc hnx.size _).grown hg1 (by have := hnx.size; simp; omega) (fun k hk => (hmod.lt k hk).1)⟩
  · rcases hdis with h | h
    · cases hv : v.ownBlock with
      | none => exact .inl rfl
      | some q => right; rw [h]; simp
    · exact .inr (fun e => h e.symm)
  · intro e
    simp only [Value.ownBlock] at e
    have hlt := (htab.row.lt g e.symm).2
    rcases hpl with h | h
    · rcases hdis with h2 | h2
      · rw [h2] at h; cases h
      · exact h2 (h.symm.trans e)
    · omega

theorem slot_new_m {w : World} {base T mb : Nat} {v : Value} {D : DataW Unit} {ns : List ByteArray} {m : Nat} (hm : m = ns.length) (h : Table w base T mb v D ns) {s : ByteArray} (hn : s ∉ ns) (hs : s.size ≤ maxLen) (hroom : m < 1024) (hbase : base ≤ w.heap.size) :
    Calls Yba.prog 10 #[.pointer (some ⟨T, 0, none⟩), .string s] w fun e w' => e = .returned (.tuple #[.int .i64 (m : Int), .bool true]) ∧
      ∃ v' D', Table w' base T mb v' D' (ns ++ [s]) ∧ Beside w w' T mb v v' := by
  subst hm
  exact slot_new h hn hs hroom hbase

set_option maxRecDepth 1000000 in
set_option maxHeartbeats 1000000 in
theorem script_le (a0 : Option Addr) (n c0 : Nat) (nm : Nat → ByteArray) (w : World) (hn : n ≤ 4096)
    (hcell : Hid (∀ k, k < n → ∃ b off, a0 = some ⟨b, off, none⟩ ∧ b < w.heap.size ∧ ∀ j, j < n → w.cell? ⟨b, off + j, none⟩ = some (.string (nm j))))
    (hsz : Hid (∀ j, j < n → (nm j).size ≤ maxLen)) :
    Calls Yba.prog 5 #[.slice a0 n c0] w fun e w' => e = .returned (.bool true) ∧ Below w.heap.size w w' := by
  obtain ⟨i9, hi, hz0, hz1, hz2⟩ := info_parts info9
  go_enter Yba.func5, Yba.ntmps5
  go_wp2_with (go_at_call 9; refine (new_any _).mono ?_; rintro e w' ⟨rfl, rfl⟩)
  go_loopw [4, 18] (fun mvv t wr => ∃ (k m : Nat) (ns : List ByteArray) (v : Value) (D : DataW Unit) (ao : Option Addr) (cap : Nat), k ≤ n ∧ t = .int .i64 k ∧ mvv = .slice ao m cap ∧ m ≤ 1024 ∧ Hid (m = ns.length) ∧ Hid (Table wr w.heap.size (w.heap.size + 1) w.heap.size v D ns) ∧
      Hid (wr.ownsRow w.heap.size 9 1 (.slice ao m cap) ns.length (ns.map Value.string)) ∧ Hid ((Value.slice ao m cap).ownBlock = none ∨ (Value.slice ao m cap).ownBlock ≠ v.ownBlock) ∧ Hid (∀ s ∈ ns, s.size ≤ maxLen) ∧ Below w.heap.size w wr) (fun _ t _ => n - (intOf t).toNat)
  case atStart =>
    refine ⟨0, 0, [], .slice none 0 0, .map [], none, 0, Nat.zero_le _, rfl, rfl, Nat.zero_le _, rfl, ⟨?_, ?_, ?_, Tab.empty, by omega, by omega⟩, World.ownsRow_nil _ _ _ _, .inl rfl, fun s hs => by simp at hs, ((Below.refl _ _).alloc (Nat.le_refl _) _).alloc (by simp) _⟩
    · have hnew := heap_alloc_new (w.alloc (.map #[] 0)) (.cells #[.map (some w.heap.size), .slice none 0 0] 65)
      have e : (w.alloc (.map #[] 0)).heap.size = w.heap.size + 1 := by simp
      rw [e] at hnew
      exact hnew
    · exact (World.ownsMap_made w _ _ _).alloc _
    · exact World.ownsRow_nil _ _ _ _
  case round =>
    obtain ⟨k, m, ns, v, D, ao, cap, hk, rfl, rfl, hm, hmn, htab, hmod, hdis, hsizes, hnx⟩ := hrel
    by_cases hkn : k < n
    · obtain ⟨b0, off, rfl, hlt0, hc⟩ := hcell.out k hkn
      have hck : wr.cell? ⟨b0, off + k, none⟩ = some (.string (nm k)) := (hnx.cell (by exact hlt0)).trans (hc k hkn)
      clear hc
      have hsk : Hid ((nm k).size ≤ maxLen) := hsz.out k hkn
      obtain ⟨s, hs⟩ : ∃ s, s = nm k := ⟨_, rfl⟩
      rw [← hs] at hck hsk
      clear hs
      have hrow : Hid (0 < m → ∃ g, ao = some ⟨g, 0, none⟩ ∧ ∀ j (hj : j < ns.length), wr.cell? ⟨g, j, none⟩ = some (.string ns[j])) := fun hp => by
        have h1 := hmod.out
        obtain ⟨g, cap', hv, hc⟩ := own_strs h1 (by rw [← hmn.out]; exact hp)
        cases hv
        exact ⟨g, rfl, hc⟩
      clear hsz hcell
      by_cases hmem : ∃ i, ∃ h : i < ns.length, ns[i] = s
      · obtain ⟨i, hil, his⟩ := hmem
        have him : i < m := by rw [hmn.out]; exact hil
        obtain ⟨g, rfl, hcs⟩ := hrow.out (by omega)
        have hHil : Hid (i < ns.length) := hil
        have hHis : Hid (∀ j (hj : j < ns.length), (j = i → ns[j] = s) ∧ (j ≠ i → (ns[j].toList == s.toList) = false)) := fun j hj => ⟨fun e => by subst e; exact his, fun hne => ne_toList (fun e => hne (htab.out.tab.inj hj hil (e.trans his.symm)))⟩
        have hcall := slot_found htab.out hil (by rw [his]; exact hsk)
        rw [his] at hcall
        have HC : Hid (Calls Yba.prog 10 #[.pointer (some ⟨w.heap.size + 1, 0, none⟩), .string s] wr fun e w' => e = .returned (.tuple #[.int .i64 (i : Int), .bool true]) ∧ w' = wr) := hcall
        have HCS : Hid (∀ j (hj : j < ns.length), wr.cell? ⟨g, j, none⟩ = some (.string ns[j])) := hcs
        clear hcall hcs his hil
        go_wp2
        go_loop [7, 8] (fun u7 u8 => ∃ j : Nat, j ≤ i ∧ u8 = .int .i64 j ∧ u7 = .int .i64 (-1)) (fun _ t => m - (intOf t).toNat)
        case atStart => exact ⟨0, Nat.zero_le _, rfl, rfl⟩
        case round =>
          obtain ⟨j, hj, rfl, rfl⟩ := hrel
          have hjl : Hid (j < ns.length) := by have h1 := hHil.out; show _ < _; omega
          have hcj := HCS.out j hjl.out
          by_cases hji : j = i
          · subst hji
            rw [(hHis.out j hjl.out).1 rfl] at hcj
            go_wp2_with (go_at_call 10; refine (HC.out).mono ?_; rintro e w' ⟨rfl, rfl⟩)
            go_roundw
            case rel => exact ⟨k + 1, m, ns, v, D, _, cap, by omega, by go_num, rfl, hm, hmn, htab, hmod, hdis, hsizes, hnx⟩
            case measure => simp [intOf]; omega
          · obtain ⟨sj, hsj⟩ : ∃ sj, sj = ns[j]'hjl.out := ⟨_, rfl⟩
            have hne := (hHis.out j hjl.out).2 hji
            rw [← hsj] at hcj hne
            clear hsj
            go_wp2
            go_round
            case rel => exact ⟨j + 1, by omega, by go_num, rfl⟩
            case measure => simp [intOf]; omega
      · have hno : Hid (∀ j (hj : j < ns.length), (ns[j].toList == s.toList) = false) := fun j hj => ne_toList (fun e => hmem ⟨j, hj, e⟩)
        have hnin : Hid (s ∉ ns) := fun hin => by
          obtain ⟨i, hi, he⟩ := List.getElem_of_mem hin
          exact hmem ⟨i, hi, he⟩
        clear hmem
        by_cases hfull : m = 1024
        · have hcall := slot_full htab.out hnin.out hsk.out (by rw [← hmn.out]; exact hfull)
          have HC : Hid (Calls Yba.prog 10 #[.pointer (some ⟨w.heap.size + 1, 0, none⟩), .string s] wr fun e w' => e = .returned (.tuple #[.int .i64 0, .bool false]) ∧ w' = wr) := hcall
          have hful2 : 1024 ≤ m := by omega
          clear hcall hfull
          go_wp2
          go_loop [7, 8] (fun u7 u8 => ∃ j : Nat, j ≤ m ∧ u8 = .int .i64 j ∧ u7 = .int .i64 (-1)) (fun _ t => m - (intOf t).toNat)
          case atStart => exact ⟨0, Nat.zero_le _, rfl, rfl⟩
          case round =>
            obtain ⟨j, hj, rfl, rfl⟩ := hrel
            by_cases hjm : j < m
            · have hjl : Hid (j < ns.length) := by have h1 := hmn.out; show _ < _; omega
              obtain ⟨g, rfl, hcs⟩ := hrow.out (by omega)
              have hcj := hcs j hjl.out
              obtain ⟨sj, hsj⟩ : ∃ sj, sj = ns[j]'hjl.out := ⟨_, rfl⟩
              have hne := hno.out j hjl.out
              rw [← hsj] at hcj hne
              clear hsj hcs
              go_wp2
              go_round
              case rel => exact ⟨j + 1, by omega, by go_num, rfl⟩
              case measure => simp [intOf]; omega
            · go_wp2_with (go_at_call 10; refine (HC.out).mono ?_; rintro e w' ⟨rfl, rfl⟩)
              go_roundw
              case rel => exact ⟨k + 1, m, ns, v, D, _, cap, by omega, by go_num, rfl, hm, hmn, htab, hmod, hdis, hsizes, hnx⟩
              case measure => simp [intOf]; omega
        · have hml : m < 1024 := by omega
          clear hfull
          have hmod2 : wr.ownsRow w.heap.size 9 1 (.slice ao m cap) m (ns.map Value.string) := by have h1 := hmod.out; rw [← hmn.out] at h1; exact h1
          have HMOD2 : Hid (wr.ownsRow w.heap.size 9 1 (.slice ao m cap) m (ns.map Value.string)) := hmod2
          clear hmod2
          go_wp2
          go_loop [7, 8] (fun u7 u8 => ∃ j : Nat, j ≤ m ∧ u8 = .int .i64 j ∧ u7 = .int .i64 (-1)) (fun _ t => m - (intOf t).toNat)
          case atStart => exact ⟨0, Nat.zero_le _, rfl, rfl⟩
          case round =>
            obtain ⟨j, hj, rfl, rfl⟩ := hrel
            by_cases hjm : j < m
            · have hjl : Hid (j < ns.length) := by have h1 := hmn.out; show _ < _; omega
              obtain ⟨g, rfl, hcs⟩ := hrow.out (by omega)
              have hcj := hcs j hjl.out
              obtain ⟨sj, hsj⟩ : ∃ sj, sj = ns[j]'hjl.out := ⟨_, rfl⟩
              have hne := hno.out j hjl.out
              rw [← hsj] at hcj hne
              clear hsj hcs
              go_wp2
              go_round
              case rel => exact ⟨j + 1, by omega, by go_num, rfl⟩
              case measure => simp [intOf]; omega
            · go_wp2_with (at_builtin; refine wpList_append_one _ rfl (.tmp 42) (.tmp 44) 49 rfl w.heap.size 9 i9 (.string ByteArray.empty) 16 Yba.underlying49 hi hz0 hz1 hz2 rfl _ _ _ rfl (HMOD2.out.alloc _) ⟨wr.heap.size, 0, none⟩ 1 (.string s) rfl ?c1 ?c2 ?c3 ?c4 ?c5 ?_)
              case c2 => rfl
              case c3 => unfold maxLen; omega
              case c4 => omega
              case c5 => have := hnx.size; simp; omega
              intro g cap' w1 hrow1 hg1 hpl
              obtain ⟨htab1, hdis1, hb1⟩ := model_step htab.out HMOD2.out hdis.out hnx hg1 hpl
              have HT1 : Hid (Table w1 w.heap.size (w.heap.size + 1) w.heap.size v D ns) := htab1
              clear htab1
              go_wp2_with fail
              refine (slot_new_m hmn.out HT1.out hnin.out hsk.out hml hb1.size).mono ?_
              rintro e w2 ⟨rfl, v', D', htab2, hbes⟩
              go_wp2
              go_roundw
              case rel =>
                obtain ⟨hrow2, hdis2⟩ := hbes.row HT1.out hrow1 hdis1
                have hl : (ns ++ [s]).length = m + 1 := by simp [hmn.out]
                exact ⟨k + 1, m + 1, ns ++ [s], v', D', _, cap', by omega, by go_num, rfl, by omega, hl.symm, htab2, by rw [hl]; show World.ownsRow _ _ _ _ _ _ _; simpa using hrow2, hdis2,
                  fun t ht => by
                    rcases List.mem_append.1 ht with h | h
                    · exact hsizes.out t h
                    · rw [List.mem_singleton.1 h]; exact hsk.out, hb1.trans (hbes.below HT1.out)⟩
              case measure => simp [intOf]; omega
    · have hlen : Hid (ns.length ≤ 4096) := by have h1 := hmn.out; show _ ≤ _; omega
      have hcall := state_ok htab.out hmod.out hlen.out hsizes.out
      have HC : Hid (Calls Yba.prog 11 #[.pointer (some ⟨w.heap.size + 1, 0, none⟩), .slice ao m cap] wr fun e w' => e = .returned (.bool true) ∧ ∃ d, w' = wr.drewN d) := hcall
      clear hcall
      go_wp2_with (go_at_call 11; refine (HC.out).mono ?_; rintro e w' ⟨rfl, d, rfl⟩)
      go_ret
      exact ⟨rfl, below_drewN hnx _⟩
end Go.Proofs.Ybulkdfpm.Tab
