/-
  Store's lock, met by the library's contracts, and the walk of Watch.
-/
import Derived.Test.YbulkdfpmRows
import Derived.Test.YbulkdfpmLocks
import Derived.Test.YbulkdfpmTabPlain
import Derived.Conc.RwLoneW
import Derived.Conc.SmallLaws
import Derived.Conc.LoneSelectN
import Derived.WalkSpells
import Derived.WalkLawsBesides
namespace Go.Proofs.Ybulkdfpm.Watch
open Go.RowKit Go.RwLone

theorem info42 : (Yba.prog.info? 42).map (fun i => (i.zero, i.size, i.bytes)) = some (some (.chan none), 1, 8) := by kernel_rfl
theorem info25 : (Yba.prog.info? 25).map (fun i => (i.zero, i.size, i.bytes)) = some (some (.agg #[]), 0, 0) := by kernel_rfl

/-- A Store's cells: the two words of its lock that turn; the generation; the map; the watchers. -/
def stC (a b gen : Int) (mb : Nat) (v : Value) : Array Value :=
  #[.int .i32 0, .int .u32 0, .int .i32 a, .int .u32 0, .int .u32 0, .int .u32 0, .int .i32 b, .int .i32 0, .int .i64 gen, .map (some mb), v, .pointer none, .pointer none]

def cv (c : Nat) : Value := .chan (some c)

section
variable {w : World} {S mb : Nat} {a b gen : Int} {v : Value}

theorem st_cell (h : w.heap[S]? = some (.cells (stC a b gen mb v) 41 (0, 0))) (j : Nat) : w.cell? ⟨S, j, none⟩ = (stC a b gen mb v)[j]? := cell_of_row w S j _ 41 (0, 0) h
theorem st_free (h : w.heap[S]? = some (.cells (stC a b gen mb v) 41 (0, 0))) (j : Nat) : w.frozen? ⟨S, j, none⟩ = false := by simp [World.frozen?, h]

theorem grown_setCell (w : World) (b j : Nat) (u : Value) : w.grownBy (w.setCell ⟨b, j, none⟩ u) (some b) :=
  ⟨rfl, rfl, rfl, by simp [World.setCell], fun k _ hk => Below.heap_setCell _ _ _ _ (fun e => hk (by rw [e]))⟩

theorem lock_st (h : w.heap[S]? = some (.cells (stC 0 0 gen mb v) 41 (0, 0))) :
    Calls Yba.prog 13 #[.pointer (some ⟨S, 2, none⟩)] w fun e w' => e = .returned (.tuple #[]) ∧ w'.heap[S]? = some (.cells (stC 1 (-1073741824) gen mb v) 41 (0, 0)) ∧ w.grownBy w' (some S) ∧ w'.heap.size = w.heap.size := by
  refine (wlock_free Yba.rwWLib S 2 (.int .u32 0) (.int .u32 0) w (st_cell h 2) (st_cell h 4) (st_cell h 5) (st_cell h 6) (st_free h 2) (st_free h 6)).mono ?_
  rintro e w' ⟨rfl, rfl⟩
  have h1 := heap_setCell_same w S 2 _ 41 (.int .i32 1) h
  have h2 := heap_setCell_same (w.setCell ⟨S, 2, none⟩ (.int .i32 1)) S 6 _ 41 (.int .i32 (-1073741824)) h1
  refine ⟨rfl, h2, ?_, by simp [World.setCell]⟩
  have g1 := grown_setCell w S 2 (.int .i32 1)
  have g2 := grown_setCell (w.setCell ⟨S, 2, none⟩ (.int .i32 1)) S 6 (.int .i32 (-1073741824))
  exact ⟨rfl, rfl, rfl, by simp [World.setCell], fun k hk hne => (g2.block k (by simp [World.setCell]; exact hk) hne).trans (g1.block k hk hne)⟩

theorem unlock_st (h : w.heap[S]? = some (.cells (stC 1 (-1073741824) gen mb v) 41 (0, 0))) :
    Calls Yba.prog 14 #[.pointer (some ⟨S, 2, none⟩)] w fun e w' => e = .returned (.tuple #[]) ∧ w'.heap[S]? = some (.cells (stC 0 0 gen mb v) 41 (0, 0)) ∧ w.grownBy w' (some S) ∧ w'.heap.size = w.heap.size := by
  refine (wunlock_held Yba.rwWLib S 2 (.int .u32 0) (.int .u32 0) w (st_cell h 2) (st_cell h 4) (st_cell h 5) (st_cell h 6) (st_free h 2) (st_free h 6)).mono ?_
  rintro e w' ⟨rfl, rfl⟩
  have h1 := heap_setCell_same w S 6 _ 41 (.int .i32 0) h
  have h2 := heap_setCell_same (w.setCell ⟨S, 6, none⟩ (.int .i32 0)) S 2 _ 41 (.int .i32 0) h1
  refine ⟨rfl, h2, ?_, by simp [World.setCell]⟩
  have g1 := grown_setCell w S 6 (.int .i32 0)
  have g2 := grown_setCell (w.setCell ⟨S, 6, none⟩ (.int .i32 0)) S 2 (.int .i32 0)
  exact ⟨rfl, rfl, rfl, by simp [World.setCell], fun k hk hne => (g2.block k (by simp [World.setCell]; exact hk) hne).trans (g1.block k hk hne)⟩
end

theorem mk1 (w : World) : (Instr.makeChan 42 (.int .i64 1)).run Yba.prog w = .ok (.chan (some w.heap.size)) (w.alloc (.chan 1 #[] false 0 0 false)) := by
  obtain ⟨i, hi, _, _, hb⟩ := info_parts info25
  exact Conc.run_makeChan Yba.underlying42 hi .i64 1 (by decide) (by rw [hb]; decide)

/-- A Store, unlocked, whose watchers are the channels cs. -/
structure Sto (w : World) (base S : Nat) (gen : Int) (mb : Nat) (v : Value) (cs : List Nat) : Prop where
  blk : w.heap[S]? = some (.cells (stC 0 0 gen mb v) 41 (0, 0))
  row : w.ownsRow base 42 1 v cs.length (cs.map cv)
  hS : base ≤ S

/-- What a turn of the watchers leaves alone. -/
structure Aside (w w' : World) (S : Nat) (v v' : Value) : Prop where
  os : w'.os = w.os
  tape : w'.tape = w.tape
  output : w'.output = w.output
  size : w.heap.size ≤ w'.heap.size
  block : ∀ k, k < w.heap.size → k ≠ S → some k ≠ v.ownBlock → w'.heap[k]? = w.heap[k]?
  place : ∃ g, v'.ownBlock = some g ∧ (some g = v.ownBlock ∨ w.heap.size ≤ g)

theorem row_ne {w : World} {base e n : Nat} {v : Value} {xs : List Value} (h : w.ownsRow base e 1 v n xs) {b : Nat} {o : Obj} (hb : w.heap[b]? = some o) (ho : ∀ c, o ≠ .cells c e (0, 0)) : some b ≠ v.ownBlock := by
  rcases h.2 with ⟨rfl, _⟩ | ⟨g, cap, cur, rfl, _, hg, _⟩
  · simp [Value.ownBlock]
  · simp only [Value.ownBlock]
    intro e
    cases e
    rw [hg] at hb
    exact ho _ (Option.some.inj hb).symm

theorem own_shape {w : World} {base e : Nat} {v : Value} {n : Nat} {xs : List Value} (h : w.ownsRow base e 1 v n xs) : ∃ ao cap, v = .slice ao n cap := by
  rcases h.2 with ⟨hv, h0⟩ | ⟨g, cap, _, hv, _⟩
  · exact ⟨none, 0, by rw [h0]; exact hv⟩
  · exact ⟨_, cap, hv⟩

set_option maxRecDepth 100000 in
set_option maxHeartbeats 400000 in
theorem watch_any {w : World} {base S mb : Nat} {gen : Int} {v : Value} {cs : List Nat} (h : Sto w base S gen mb v cs) (hlen : cs.length ≤ 4096) (hbase : base ≤ w.heap.size) :
    Calls Yba.prog 7 #[.pointer (some ⟨S, 0, none⟩)] w fun e w' => e = .returned (.chan (some w.heap.size)) ∧
      ∃ v', Sto w' base S gen mb v' (cs ++ [w.heap.size]) ∧ w'.heap[w.heap.size]? = some (.chan 1 #[] false 0 0 false) ∧ Aside w w' S v v' ∧ w.heap.size < w'.heap.size := by
  have hmk := mk1
  obtain ⟨i, hi, hz0, hz1, hz2⟩ := info_parts info42
  obtain ⟨ao, cap, hv⟩ := own_shape h.row
  have HV : Hid (v = .slice ao cs.length cap) := hv
  have HH : Hid (Sto w base S gen mb v cs) := h
  have hSlt : S < w.heap.size := (Array.getElem?_eq_some_iff.1 h.blk).1
  have hb0 : Hid ((w.alloc (.chan 1 #[] false 0 0 false)).heap[S]? = some (.cells (stC 0 0 gen mb v) 41 (0, 0))) := (Below.heap_alloc w _ S hSlt).trans h.blk
  clear h hv
  go_enter Yba.func7, Yba.ntmps7
  go_wp2_with fail
  refine (lock_st hb0.out).mono ?_
  rintro e w1 ⟨rfl, hb1, hg1, hs1⟩
  have hs1' : w1.heap.size = w.heap.size + 1 := by rw [hs1]; simp
  have HB1 : Hid (w1.heap[S]? = some (.cells (stC 1 (-1073741824) gen mb v) 41 (0, 0))) := hb1
  have c10 : w1.cell? ⟨S, 10, none⟩ = some (.slice ao cs.length cap) := by rw [st_cell hb1 10, ← HV.out]; rfl
  have hSv : Hid (some S ≠ v.ownBlock) := row_ne HH.out.row HH.out.blk (fun c hc => by cases hc)
  have hrow1 : w1.ownsRow base 42 1 (.slice ao cs.length cap) cs.length (cs.map cv) := by
    rw [← HV.out]
    exact (HH.out.row.alloc _).kept hg1 (.inr (fun e => hSv.out e.symm))
  have HG1 : Hid ((w.alloc (.chan 1 #[] false 0 0 false)).grownBy w1 (some S)) := hg1
  have HS1 : Hid (w1.heap.size = w.heap.size + 1) := hs1'
  clear hg1 hs1 hs1' hb1
  go_wp2_with (at_builtin; refine Tab.wpList_append_one _ rfl (.tmp 13) (.tmp 15) 37 rfl base 42 i (.chan none) 8 Yba.underlying37 hi hz0 hz1 hz2 rfl _ _ _ rfl (hrow1.alloc _) ⟨w1.heap.size, 0, none⟩ 1 (cv w.heap.size) rfl ?c1 ?c2 ?c3 ?c4 ?c5 ?_)
  case c1 => exact cell_one_new _ _ _
  case c2 => intro u hu; simp at hu; subst hu; rfl
  case c3 => unfold maxLen; omega
  case c4 => omega
  case c5 => have := HS1.out; simp; omega
  intro g cap' w2 hrow2 hg2 hpl
  have hb2 : w2.heap[S]? = some (.cells (stC 1 (-1073741824) gen mb v) 41 (0, 0)) := by
    rw [hg2.block S (by have := HS1.out; simp; omega) (by rw [← HV.out]; exact hSv.out)]
    exact (Below.heap_alloc w1 _ S (by have := HS1.out; omega)).trans HB1.out
  have HB2 : Hid (w2.heap[S]? = some (.cells (stC 1 (-1073741824) gen mb v) 41 (0, 0))) := hb2
  have d10 : w2.cell? ⟨S, 10, none⟩ = some v := by rw [st_cell hb2 10]; rfl
  have f10 : w2.frozen? ⟨S, 10, none⟩ = false := st_free hb2 10
  have HB3 : Hid ((w2.setCell ⟨S, 10, none⟩ (.slice (some ⟨g, 0, none⟩) (cs.length + 1) cap')).heap[S]? = some (.cells (stC 1 (-1073741824) gen mb (.slice (some ⟨g, 0, none⟩) (cs.length + 1) cap')) 41 (0, 0))) := heap_setCell_same w2 S 10 _ 41 _ hb2
  clear hb2
  go_wp2_with fail
  refine (unlock_st HB3.out).mono ?_
  rintro e w3 ⟨rfl, hb3, hg3, hs3⟩
  go_wp2
  go_ret
  have hlt2 : w1.heap.size + 1 ≤ w2.heap.size := by have := hg2.size; simpa using this
  have hs3' : w3.heap.size = w2.heap.size := by rw [hs3]; simp [World.setCell]
  have hs1 := HS1.out
  have hnew : ∀ k, k ≤ w.heap.size → k ≠ S → some k ≠ v.ownBlock → w3.heap[k]? = (w.alloc (.chan 1 #[] false 0 0 false)).heap[k]? := by
    intro k hk h1 h2
    rw [hg3.block k (by simp [World.setCell]; omega) (by simpa using h1), Below.heap_setCell _ _ _ _ (by exact h1), hg2.block k (by simp; omega) (by rw [← HV.out]; exact h2), Below.heap_alloc w1 _ k (by omega)]
    exact HG1.out.block k (by simp; omega) (by simpa using h1)
  have hnv : some w.heap.size ≠ v.ownBlock := fun e => by have := (HH.out.row.lt _ e.symm).2; omega
  refine ⟨rfl, .slice (some ⟨g, 0, none⟩) (cs.length + 1) cap', ⟨hb3, ?_, HH.out.hS⟩, ?_, ⟨?_, ?_, ?_, by omega, ?_, g, rfl, ?_⟩, by omega⟩
  · have hgS : some S ≠ (Value.slice (some ⟨g, 0, none⟩) (cs.length + 1) cap').ownBlock := row_ne hrow2 HB2.out (fun c hc => by cases hc)
    have h1 := (hrow2.kept (grown_setCell w2 S 10 (.slice (some ⟨g, 0, none⟩) (cs.length + 1) cap')) (.inr (fun e => hgS e.symm))).kept hg3 (.inr (fun e => hgS e.symm))
    simpa using h1
  · rw [hnew _ (Nat.le_refl _) (by omega) hnv]
    exact heap_alloc_new w _
  · exact hg3.os.trans (hg2.os.trans HG1.out.os)
  · exact hg3.tape.trans (hg2.tape.trans HG1.out.tape)
  · exact hg3.output.trans (hg2.output.trans HG1.out.output)
  · intro k hk h1 h2
    rw [hnew k (by omega) h1 h2]
    exact Below.heap_alloc w _ k hk
  · rcases hpl with h | h
    · left; rw [HV.out]; exact h
    · right; omega
end Go.Proofs.Ybulkdfpm.Watch
