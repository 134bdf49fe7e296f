/-
  The walks of newVarTable (without names), slot and zzs5342cstate.
-/
import Derived.Test.YbulkdfpmRows
import Derived.Test.YbulkdfpmTabPlain
import Derived.WalkSpells
import Derived.WalkLawsBesides
import Derived.Deep.QuietTactic
import Derived.BigQuiet
namespace Go.Proofs.Ybulkdfpm.Tab
open Go.RowKit Go.Maps Go.WideMaps

theorem law : Keyed Yba.prog 9 := string_keyed Yba.underlying9
theorem zero3 (w : World) : (zeroValue 3).run Yba.prog w = .ok (.int .i64 0) w := by kernel_rfl
theorem info9 : (Yba.prog.info? 9).map (fun i => (i.zero, i.size, i.bytes)) = some (some (.string ByteArray.empty), 1, 16) := by kernel_rfl
theorem make0 (w : World) : (Instr.makeMap 63 (some (.int .i64 0))).run Yba.prog w = .ok (.map (some w.heap.size)) (w.alloc (.map #[] 0)) := by
  simp [Instr.makeMap, run_underlying Yba.underlying63, asInt, asIntOf]

/-- The table in memory: its struct's block, its map, its row of names. -/
structure Table (w : World) (base T mb : Nat) (v : Value) (D : DataW Unit) (ns : List ByteArray) : Prop where
  blk : w.heap[T]? = some (.cells #[.map (some mb), v] 65 (0, 0))
  map : w.ownsMap Yba.prog 9 (plainElem Yba.prog 3) mb ns.length D
  row : w.ownsRow base 9 1 v ns.length (ns.map Value.string)
  tab : Tab D ns
  hT : base ≤ T
  hM : base ≤ mb

theorem new_any (w : World) :
    Calls Yba.prog 9 #[.slice none 0 0] w fun e w' => e = .returned (.pointer (some ⟨w.heap.size + 1, 0, none⟩)) ∧ w' = (w.alloc (.map #[] 0)).alloc (.cells #[.map (some w.heap.size), .slice none 0 0] 65) := by
  have hmm := make0
  go_enter Yba.func9, Yba.ntmps9
  go_wp2
  refine wp_loop_rounds 1 ?_
  rw [rounds_succ]
  go_wp2
  go_ret
  exact ⟨rfl, rfl⟩

section
variable {w : World} {base T mb : Nat} {v : Value} {D : DataW Unit} {ns : List ByteArray}

theorem Table.cell0 (h : Table w base T mb v D ns) : w.cell? ⟨T, 0, none⟩ = some (.map (some mb)) := by rw [cell_of_row w T 0 _ 65 (0, 0) h.blk]; rfl
theorem Table.cell1 (h : Table w base T mb v D ns) : w.cell? ⟨T, 1, none⟩ = some v := by rw [cell_of_row w T 1 _ 65 (0, 0) h.blk]; rfl
theorem Table.free1 (h : Table w base T mb v D ns) : w.frozen? ⟨T, 1, none⟩ = false := by simp [World.frozen?, h.blk]
theorem Table.lt (h : Table w base T mb v D ns) : T < w.heap.size := (Array.getElem?_eq_some_iff.1 h.blk).1

/-- The look-up of a name that is there. -/
theorem Table.look (h : Table w base T mb v D ns) {i : Nat} (hi : i < ns.length) (hs : ns[i].size ≤ maxLen) :
    (Instr.lookup 63 (.map (some mb)) (.string ns[i]) true).run Yba.prog w = .ok (.tuple #[.int .i64 (i : Int), .bool true]) w := by
  obtain ⟨u, ps, hrun, hR⟩ := h.map.look_ok law Yba.underlying63 (zero3 w) (plainElem_int Yba.underlying3 (by decide)) (keyOf_string_mk Yba.underlying9 hs)
  rw [h.tab.look i hi] at hR
  rw [(h.tab.has ns[i]).2 (List.getElem_mem hi)] at hrun
  obtain ⟨c, rfl, hc, _⟩ := plainElem_int_inv Yba.underlying3 hR
  simp only [Prod.mk.injEq, DataW.lit.injEq, Lit.int.injEq, true_and] at hc
  rw [← hc.1] at hrun
  exact hrun

/-- .. of one that is not. -/
theorem Table.miss (h : Table w base T mb v D ns) {s : ByteArray} (hn : s ∉ ns) (hs : s.size ≤ maxLen) :
    ∃ u, (Instr.lookup 63 (.map (some mb)) (.string s) true).run Yba.prog w = .ok (.tuple #[.int .i64 u, .bool false]) w := by
  obtain ⟨u, ps, hrun, hR⟩ := h.map.look_ok law Yba.underlying63 (zero3 w) (plainElem_int Yba.underlying3 (by decide)) (keyOf_string_mk Yba.underlying9 hs)
  have hf : Maps.has D (.string s.data.toList) = false := by rw [Bool.eq_false_iff]; intro hc; exact hn ((h.tab.has s).1 hc)
  rw [hf] at hrun
  obtain ⟨c, rfl, _, _⟩ := plainElem_int_inv Yba.underlying3 hR
  exact ⟨c, hrun⟩

/-- slot, the name there already. -/
theorem slot_found (h : Table w base T mb v D ns) {i : Nat} (hi : i < ns.length) (hs : ns[i].size ≤ maxLen) :
    Calls Yba.prog 10 #[.pointer (some ⟨T, 0, none⟩), .string ns[i]] w fun e w' => e = .returned (.tuple #[.int .i64 (i : Int), .bool true]) ∧ w' = w := by
  have hl := h.look hi hs
  have c0 := h.cell0
  clear h
  go_enter Yba.func10, Yba.ntmps10
  go_wp2
  go_ret2
  exact ⟨rfl, rfl⟩

/-- slot, a new name, the table full. -/
theorem slot_full (h : Table w base T mb v D ns) {s : ByteArray} (hn : s ∉ ns) (hs : s.size ≤ maxLen) (hfull : ns.length = 1024) :
    Calls Yba.prog 10 #[.pointer (some ⟨T, 0, none⟩), .string s] w fun e w' => e = .returned (.tuple #[.int .i64 0, .bool false]) ∧ w' = w := by
  obtain ⟨u, hl⟩ := h.miss hn hs
  have c0 := h.cell0
  have c1 := h.cell1
  obtain ⟨g, cap, hv⟩ : ∃ g cap, v = .slice (some ⟨g, 0, none⟩) 1024 cap := by
    rcases h.row.2 with ⟨_, h0⟩ | ⟨g, cap, _, hv, _⟩
    · omega
    · exact ⟨g, cap, by rw [← hfull]; exact hv⟩
  rw [hv] at c1
  clear h hv hfull
  go_enter Yba.func10, Yba.ntmps10
  go_wp2
  go_ret2
  exact ⟨rfl, rfl⟩

/-- What slot leaves alone when it takes a new name. -/
structure Beside (w w' : World) (T mb : Nat) (v v' : Value) : Prop where
  os : w'.os = w.os
  tape : w'.tape = w.tape
  output : w'.output = w.output
  size : w.heap.size ≤ w'.heap.size
  block : ∀ k, k < w.heap.size → k ≠ T → k ≠ mb → some k ≠ v.ownBlock → w'.heap[k]? = w.heap[k]?
  place : ∃ g, v'.ownBlock = some g ∧ (some g = v.ownBlock ∨ w.heap.size ≤ g)

theorem ret_two {a b : Int} {x : Bool} (h : a = b) : Ending.returned (.tuple #[.int .i64 a, .bool x]) = .returned (.tuple #[.int .i64 b, .bool x]) := by rw [h]

theorem grown_setCell (w : World) (b j : Nat) (u : Value) : w.grownBy (w.setCell ⟨b, j, none⟩ u) (some b) :=
  ⟨rfl, rfl, rfl, by simp [World.setCell], fun k _ hk => Below.heap_setCell _ _ _ _ (fun e => hk (by rw [e]))⟩

/-- A block of another kind is no owned row's. -/
theorem row_ne {w : World} {base e n : Nat} {v : Value} {xs : List Value} (h : w.ownsRow base e 1 v n xs) {b : Nat} {o : Obj} (hb : w.heap[b]? = some o) (ho : ∀ c, o ≠ .cells c e (0, 0)) : some b ≠ v.ownBlock := by
  rcases h.2 with ⟨rfl, _⟩ | ⟨g, cap, cur, rfl, _, hg, _⟩
  · simp [Value.ownBlock]
  · simp only [Value.ownBlock]
    intro e
    cases e
    rw [hg] at hb
    exact ho _ (Option.some.inj hb).symm

theorem Table.ne (h : Table w base T mb v D ns) : T ≠ mb := by
  rintro rfl
  obtain ⟨es, clock, hb, _⟩ := h.map
  rw [h.blk] at hb
  cases hb

set_option maxRecDepth 100000 in
set_option maxHeartbeats 400000 in
/-- slot, a new name, the table not full. -/
theorem slot_new (h : Table w base T mb v D ns) {s : ByteArray} (hn : s ∉ ns) (hs : s.size ≤ maxLen) (hroom : ns.length < 1024) (hbase : base ≤ w.heap.size) :
    Calls Yba.prog 10 #[.pointer (some ⟨T, 0, none⟩), .string s] w fun e w' => e = .returned (.tuple #[.int .i64 (ns.length : Int), .bool true]) ∧
      ∃ v' D', Table w' base T mb v' D' (ns ++ [s]) ∧ Beside w w' T mb v v' := by
  obtain ⟨u, hl⟩ := h.miss hn hs
  have c0 := h.cell0
  have c1 := h.cell1
  have f1 := h.free1
  have hTlt := h.lt
  obtain ⟨ao, cap, hv⟩ : ∃ ao cap, v = .slice ao ns.length cap := by
    rcases h.row.2 with ⟨hv, h0⟩ | ⟨g, cap, _, hv, _⟩
    · exact ⟨none, 0, by rw [h0]; exact hv⟩
    · exact ⟨_, cap, hv⟩
  have HV : Hid (v = .slice ao ns.length cap) := hv
  rw [hv] at c1
  clear hv
  obtain ⟨i9, hi, hz0, hz1, hz2⟩ := info_parts info9
  obtain ⟨w1, hup, hown1, hturn1⟩ := (h.map.drew).store law Yba.underlying63 (by unfold maxLen; omega) (keyOf_string_mk Yba.underlying9 hs) (plainElem_int (a := (ns.length : Int)) Yba.underlying3 (by simp [Lit.wf, IntKind.min, IntKind.max, IntKind.signed, IntKind.bits]; omega))
  have hne := h.ne
  have hg1 := hturn1.grown
  have hb1 : w1.heap[T]? = some (.cells #[.map (some mb), v] 65 (0, 0)) := (hg1.block T hTlt (by simpa using hne)).trans h.blk
  have hmv : some mb ≠ v.ownBlock := by
    obtain ⟨es, clock, hb, _⟩ := h.map
    exact row_ne h.row hb (fun c hc => by cases hc)
  have hTv : some T ≠ v.ownBlock := row_ne h.row h.blk (fun c hc => by cases hc)
  have hrow1 : w1.ownsRow base 9 1 v ns.length (ns.map Value.string) := World.ownsRow.kept (w := w.drew) h.row hg1 (.inr (fun e => hmv e.symm))
  have hs1 : w.heap.size ≤ w1.heap.size := hg1.size
  have d1 : w1.cell? ⟨T, 1, none⟩ = some (.slice ao ns.length cap) := by rw [cell_of_row w1 T 1 _ 65 (0, 0) hb1, ← HV.out]; rfl
  have HB1 : Hid (w1.heap[T]? = some (.cells #[.map (some mb), v] 65 (0, 0))) := hb1
  have HG1 : Hid (w.drew.grownBy w1 (some mb)) := hg1
  have HM : Hid (w1.ownsMap Yba.prog 9 (plainElem Yba.prog 3) mb (ns.length + 1) (D.put (.string s.data.toList) (.lit (.int .i64 (ns.length : Int))))) := hown1
  have HT : Hid (Tab (D.put (.string s.data.toList) (.lit (.int .i64 (ns.length : Int)))) (ns ++ [s]) ∧ base ≤ T ∧ base ≤ mb) := ⟨h.tab.put hn, h.hT, h.hM⟩
  have HN : Hid (some mb ≠ v.ownBlock ∧ some T ≠ v.ownBlock ∧ T ≠ mb) := ⟨hmv, hTv, hne⟩
  have hrow2 : w1.ownsRow base 9 1 (.slice ao ns.length cap) ns.length (ns.map Value.string) := by rw [← HV.out]; exact hrow1
  clear h hn hb1 hg1 hown1 hmv hTv hne hturn1 hrow1
  go_enter Yba.func10, Yba.ntmps10
  go_wp2
  go_region
  go_wp2_with (at_builtin; refine wpList_append_one _ rfl (.tmp 39) (.tmp 41) 49 rfl base 9 i9 (.string ByteArray.empty) 16 Yba.underlying49 hi hz0 hz1 hz2 rfl _ _ _ rfl (hrow2.alloc _) ⟨w1.heap.size, 0, none⟩ 1 (.string s) rfl ?c1 ?c2 ?c3 ?c4 ?c5 ?_)
  case c1 => exact cell_one_new _ _ _
  case c2 => intro u hu; simp at hu; subst hu; rfl
  case c3 => unfold maxLen; omega
  case c4 => omega
  case c5 => simp; omega
  intro g cap' w2 hrow3 hg2 hpl
  have hb2 : w2.heap[T]? = some (.cells #[.map (some mb), v] 65 (0, 0)) := by
    have h1 := hg2.block T (by simp; omega) (by rw [← HV.out]; exact HN.out.2.1)
    rw [h1]
    exact (Below.heap_alloc w1 _ T (by omega)).trans HB1.out
  have HB2 : Hid (w2.heap[T]? = some (.cells #[.map (some mb), v] 65 (0, 0))) := hb2
  have d2 : w2.cell? ⟨T, 1, none⟩ = some v := by rw [cell_of_row w2 T 1 _ 65 (0, 0) hb2]; rfl
  have e2 : w2.frozen? ⟨T, 1, none⟩ = false := by simp [World.frozen?, hb2]
  clear hb2
  go_wp2
  go_ret2
  refine ⟨ret_two (by omega), .slice (some ⟨g, 0, none⟩) (ns.length + 1) cap', _, ⟨?_, ?_, ?_, HT.out.1, HT.out.2.1, HT.out.2.2⟩, ?_⟩
  · exact heap_setCell_same w2 T 1 _ 65 _ HB2.out
  · have h1 := (((HM.out.alloc (.cells #[.string s] 9)).kept hg2 (by rw [← HV.out]; exact HN.out.1)).setCell (a := ⟨T, 1, none⟩) (fun e => HN.out.2.2 e.symm) (.slice (some ⟨g, 0, none⟩) (ns.length + 1) cap'))
    simpa using h1
  · have h1 := hrow3.kept (grown_setCell w2 T 1 (.slice (some ⟨g, 0, none⟩) (ns.length + 1) cap')) (.inr (fun e => row_ne hrow3 HB2.out (fun c hc => by cases hc) e.symm))
    simpa using h1
  · refine ⟨?_, ?_, ?_, ?_, ?_, g, rfl, ?_⟩
    · exact hg2.os.trans HG1.out.os
    · exact hg2.tape.trans HG1.out.tape
    · exact hg2.output.trans HG1.out.output
    · have := hg2.size
      simp [World.setCell] at this ⊢
      omega
    · intro k hk h1 h2 h3
      rw [Below.heap_setCell _ _ _ _ (by exact h1), hg2.block k (by simp; omega) (by rw [← HV.out]; exact h3), Below.heap_alloc w1 _ k (by omega)]
      exact HG1.out.block k hk (by simpa using h2)
    · rcases hpl with hp | hp
      · left; rw [HV.out]; exact hp
      · right; omega

/-- The cells of an owned row of strings. -/
theorem own_strs {w : World} {base : Nat} {v : Value} {ns : List ByteArray} (h : w.ownsRow base 9 1 v ns.length (ns.map Value.string)) (hp : 0 < ns.length) :
    ∃ g cap, v = .slice (some ⟨g, 0, none⟩) ns.length cap ∧ ∀ j (hj : j < ns.length), w.cell? ⟨g, j, none⟩ = some (.string ns[j]) := by
  rcases h.2 with ⟨_, h0⟩ | ⟨g, cap, _, rfl, _⟩
  · omega
  · refine ⟨g, cap, rfl, fun j hj => ?_⟩
    have := h.cells rfl j (.string ns[j]) (by simp [hj])
    rw [Addr.add_lit, Nat.zero_add] at this
    exact this

theorem own_shape {w : World} {base : Nat} {v : Value} {n : Nat} {xs : List Value} (h : w.ownsRow base 9 1 v n xs) : ∃ ao cap, v = .slice ao n cap := by
  rcases h.2 with ⟨hv, h0⟩ | ⟨g, cap, _, hv, _⟩
  · exact ⟨none, 0, by rw [h0]; exact hv⟩
  · exact ⟨_, cap, hv⟩

set_option maxRecDepth 100000 in
set_option maxHeartbeats 400000 in
/-- zzs5342cstate: the table holds just the model's names. -/
theorem state_ok (h : Table w base T mb v D ns) {base2 : Nat} {mv : Value} (hm : w.ownsRow base2 9 1 mv ns.length (ns.map Value.string)) (hlen : ns.length ≤ 4096) (hsz : ∀ s ∈ ns, s.size ≤ maxLen) :
    Calls Yba.prog 11 #[.pointer (some ⟨T, 0, none⟩), mv] w fun e w' => e = .returned (.bool true) ∧ ∃ d, w' = w.drewN d := by
  obtain ⟨ao, cap, hv⟩ := own_shape h.row
  obtain ⟨ao2, cap2, hv2⟩ := own_shape hm
  subst hv hv2
  have c0 := h.cell0
  have c1 := h.cell1
  have hl0 : ∀ ty, (Builtin.len_ #[63] ty #[.map (some mb)]).run Yba.prog w = .ok (.int .i64 (ns.length : Int)) w := fun ty => by
    have := h.map.len Yba.underlying63 ty
    rw [h.tab.size] at this
    exact this
  have hlk : Hid (∀ j (hj : j < ns.length) d, (Instr.lookup 63 (.map (some mb)) (.string ns[j]) true).run Yba.prog (w.drewN d) = .ok (.tuple #[.int .i64 (j : Int), .bool true]) (w.drewN d)) :=
    fun j hj d => Table.look (w := w.drewN d) ⟨h.blk, h.map, h.row, h.tab, h.hT, h.hM⟩ hj (hsz _ (List.getElem_mem hj))
  have hr1 : Hid (0 < ns.length → ∃ g, ao = some ⟨g, 0, none⟩ ∧ ∀ j (hj : j < ns.length), w.cell? ⟨g, j, none⟩ = some (.string ns[j])) := fun hp => by
    obtain ⟨g, cap', hv, hc⟩ := own_strs h.row hp
    cases hv
    exact ⟨g, rfl, hc⟩
  have hr2 : Hid (0 < ns.length → ∃ g, ao2 = some ⟨g, 0, none⟩ ∧ ∀ j (hj : j < ns.length), w.cell? ⟨g, j, none⟩ = some (.string ns[j])) := fun hp => by
    obtain ⟨g, cap', hv, hc⟩ := own_strs hm hp
    cases hv
    exact ⟨g, rfl, hc⟩
  clear h hm hsz
  obtain ⟨n, hn⟩ : ∃ n, n = ns.length := ⟨_, rfl⟩
  have HN : Hid (n = ns.length) := hn
  rw [← hn] at c1 hl0 hlen ⊢
  clear hn
  go_enter Yba.func11, Yba.ntmps11
  go_wp2
  go_loopw [5] (fun t wx => ∃ j : Nat, j ≤ n ∧ t = .int .i64 j ∧ Hid (∃ d, wx = w.drewN d)) (fun t _ => n - (intOf t).toNat)
  case atStart => exact ⟨0, Nat.zero_le _, rfl, 0, rfl⟩
  case round =>
    obtain ⟨j, hj, rfl, hw⟩ := hrel
    by_cases hjn : j < n
    · have hjl : Hid (j < ns.length) := by rw [← HN.out]; exact hjn
      obtain ⟨g1, rfl, k1⟩ := hr1.out (Nat.lt_of_le_of_lt (Nat.zero_le _) hjl)
      obtain ⟨g2, rfl, k2⟩ := hr2.out (Nat.lt_of_le_of_lt (Nat.zero_le _) hjl)
      obtain ⟨sj, hsj⟩ : ∃ sj, sj = ns[j]'hjl.out := ⟨_, rfl⟩
      have kk1 := k1 j hjl.out
      have kk2 := k2 j hjl.out
      have kk3 := hlk.out j hjl.out
      rw [← hsj] at kk1 kk2 kk3
      obtain ⟨e0, e1, r1, r2, r3⟩ : wr.cell? ⟨T, 0, none⟩ = some (.map (some mb)) ∧ wr.cell? ⟨T, 1, none⟩ = some (.slice (some ⟨g1, 0, none⟩) n cap) ∧ wr.cell? ⟨g1, j, none⟩ = some (.string sj) ∧ wr.cell? ⟨g2, j, none⟩ = some (.string sj) ∧
          (∀ d, (Instr.lookup 63 (.map (some mb)) (.string sj) true).run Yba.prog (wr.drewN d) = .ok (.tuple #[.int .i64 (j : Int), .bool true]) (wr.drewN d)) := by
        obtain ⟨d, rfl⟩ := hw.out
        exact ⟨c0, c1, kk1, kk2, fun d' => by rw [World.drewN_drewN]; exact kk3 _⟩
      clear k1 k2 hsj kk1 kk2 kk3 c0 c1 hl0
      go_wp2
      go_quiet (fail)
      go_wp2
      go_quiet (fail)
      go_wp2
      go_roundw
      case rel => exact ⟨j + 1, by omega, by go_num, by obtain ⟨d, rfl⟩ := hw.out; simp; exact ⟨_, rfl⟩⟩
      case measure => simp [intOf]; omega
    · go_wp2
      go_ret
      exact ⟨rfl, hw⟩
end

section
variable {w w' : World} {base T mb : Nat} {v : Value} {D : DataW Unit} {ns : List ByteArray}

theorem Table.kept (h : Table w base T mb v D ns) {row : Option Nat} (hg : w.grownBy w' row) (h1 : row ≠ some T) (h2 : row ≠ some mb) (h3 : v.ownBlock = none ∨ v.ownBlock ≠ row) : Table w' base T mb v D ns :=
  ⟨(hg.block T h.lt (fun e => h1 e.symm)).trans h.blk, h.map.kept hg (fun e => h2 e.symm), h.row.kept hg h3, h.tab, h.hT, h.hM⟩

theorem Table.alloc (h : Table w base T mb v D ns) (o : Obj) : Table (w.alloc o) base T mb v D ns :=
  h.kept (World.grownBy_alloc w o none) (by simp) (by simp) (by cases v.ownBlock <;> simp)

theorem Table.mapAt (h : Table w base T mb v D ns) : ∃ es clock, w.heap[mb]? = some (.map es clock) := by
  obtain ⟨es, clock, hb, _⟩ := h.map
  exact ⟨es, clock, hb⟩

theorem own_lt {n : Nat} {xs : List Value} {e : TypeId} (h : w.ownsRow base e 1 v n xs) : ∀ g, v.ownBlock = some g → base ≤ g ∧ g < w.heap.size := fun g hg => h.lt g hg

theorem Beside.below {v' : Value} (hb : Beside w w' T mb v v') (h : Table w base T mb v D ns) : Below base w w' :=
  ⟨hb.os, hb.tape, hb.output, hb.size, fun k hk => hb.block k (by have := h.lt; have := h.hT; omega) (by have := h.hT; omega) (by have := h.hM; omega) (fun e => by have := (own_lt h.row k e.symm).1; omega)⟩

/-- Another row of strings, behind slot. -/
theorem Beside.row {v' mv : Value} {base2 n : Nat} {xs : List Value} (hb : Beside w w' T mb v v') (h : Table w base T mb v D ns) (hm : w.ownsRow base2 9 1 mv n xs) (hd : mv.ownBlock = none ∨ mv.ownBlock ≠ v.ownBlock) :
    w'.ownsRow base2 9 1 mv n xs ∧ (mv.ownBlock = none ∨ mv.ownBlock ≠ v'.ownBlock) := by
  obtain ⟨es, clock, hmb⟩ := h.mapAt
  have n1 := row_ne hm h.blk (fun c hc => by cases hc)
  have n2 := row_ne hm hmb (fun c hc => by cases hc)
  rcases hm.2 with ⟨hv, h0⟩ | ⟨g, cap, cur, rfl, hbg, hg, hr⟩
  · refine ⟨⟨hm.1, .inl ⟨hv, h0⟩⟩, .inl ?_⟩
    rw [hv]; rfl
  · have hlt := (Array.getElem?_eq_some_iff.1 hg).1
    have hd' : some g ≠ v.ownBlock := by
      rcases hd with hd | hd
      · cases hd
      · exact hd
    refine ⟨⟨hm.1, .inr ⟨g, cap, cur, rfl, hbg, ?_, hr⟩⟩, .inr ?_⟩
    · rw [hb.block g hlt (fun e => n1 (by rw [← e]; rfl)) (fun e => n2 (by rw [← e]; rfl)) hd']
      exact hg
    · obtain ⟨g', hg', hpl⟩ := hb.place
      rw [hg']
      intro e
      have e2 : g = g' := by simpa [Value.ownBlock] using e
      subst e2
      rcases hpl with hp | hp
      · exact hd' hp
      · omega
end
end Go.Proofs.Ybulkdfpm.Tab
