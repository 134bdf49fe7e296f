/-
  The walk of LawS5342BAppends.
-/
import Derived.Test.YbulkdfpmWatch
import Derived.Deep.QuietTactic
import Derived.BigQuiet
namespace Go.Proofs.Ybulkdfpm.Watch
open Go.RowKit

section
variable {P : Program} (w : World)
theorem run_eql_chan {t e : TypeId} {dir : ChanDir} (a b : Option Nat) (ht : P.underlying t = some (.chan dir e)) : (binOp .eql t (.chan a) (.chan b)).run P w = .ok (.bool (a == b)) w := by
  have h : ∀ d : Nat, (Op.equalIn (d + 1) t (.chan a) (.chan b)).run P w = .ok (a == b) w := fun d => by
    simp [Op.equalIn, run_underlying ht]
  simp only [binOp]
  simp [Op.equal, Op.maxDepth, h 9999]
theorem run_neq_chan {t e : TypeId} {dir : ChanDir} (a b : Option Nat) (ht : P.underlying t = some (.chan dir e)) : (binOp .neq t (.chan a) (.chan b)).run P w = .ok (.bool (!(a == b))) w := by
  have h : ∀ d : Nat, (Op.equalIn (d + 1) t (.chan a) (.chan b)).run P w = .ok (a == b) w := fun d => by
    simp [Op.equalIn, run_underlying ht]
  simp only [binOp]
  simp [Op.equal, Op.maxDepth, h 9999]
end
theorem info44 : (Yba.prog.info? 44).map (fun i => (i.zero, i.size, i.bytes)) = some (some (.chan none), 1, 8) := by kernel_rfl

/-- The first k watchers, laid by hand: the Store holds them, and so does the row 'old'. -/
structure Pre (w wr : World) (k p : Nat) (v : Value) (cs : List Nat) (cur : Array Value) : Prop where
  sto : Sto wr w.heap.size (w.heap.size + 1) 0 w.heap.size v cs
  len : cs.length = k
  old : wr.heap[w.heap.size + 1 + 1]? = some (.cells cur 42 (0, 0))
  osz : cur.size = p
  ocs : ∀ j (h : j < cs.length), cur[j]? = some (cv cs[j])
  dis : some (w.heap.size + 1 + 1) ≠ v.ownBlock
  bel : Below w.heap.size w wr

theorem start_pre {w w1 : World} {p : Nat} (hown : w1.ownsRow w.heap.size 42 1 (.slice (some ⟨w.heap.size + 1 + 1, 0, none⟩) p p) p (madeCells #[Value.chan none] p).toList)
    (hg : ((w.alloc (.map #[] 0)).alloc (.cells (stC 0 0 0 w.heap.size (.slice none 0 0)) 41)).grownBy w1 none) : Pre w w1 0 p (.slice none 0 0) [] (madeCells #[Value.chan none] p) := by
  have hS : w1.heap[w.heap.size + 1]? = some (.cells (stC 0 0 0 w.heap.size (.slice none 0 0)) 41 (0, 0)) := by
    rw [hg.block _ (by simp) (by simp)]
    have hnew := heap_alloc_new (w.alloc (.map #[] 0)) (.cells (stC 0 0 0 w.heap.size (.slice none 0 0)) 41)
    have e : (w.alloc (.map #[] 0)).heap.size = w.heap.size + 1 := by simp
    rw [e] at hnew
    exact hnew
  have hbel : Below w.heap.size w w1 := (((Below.refl _ _).alloc (Nat.le_refl _) _).alloc (by simp) _).grown hg (by simp; omega) (fun k h => by cases h)
  rcases hown.2 with ⟨h, _⟩ | ⟨g, cap, cur, hv, _, hgg, hpc, _, hcs, htake⟩
  · cases h
  · cases hv
    have hcur : cur = madeCells #[Value.chan none] p := by
      apply Array.toList_inj.1
      rw [← htake, List.take_of_length_le (by simp [hcs])]
    subst hcur
    exact ⟨⟨hS, World.ownsRow_nil _ _ _ _, by omega⟩, rfl, hgg, by omega, fun j h => by simp at h, by simp [Value.ownBlock], hbel⟩

/-- The Store's row, behind the store into 'old' and the new channel. -/
theorem Pre.rowW {w wr : World} {k p : Nat} {v : Value} {cs : List Nat} {cur : Array Value} (h : Pre w wr k p v cs cur) :
    ((wr.setCell ⟨w.heap.size + 1 + 1, k, none⟩ (.chan (some wr.heap.size))).alloc (.chan 1 #[] false 0 0 false)).ownsRow w.heap.size 42 1 v k (cs.map cv) := by
  have h1 := h.sto.row
  rw [h.len] at h1
  exact (h1.kept (grown_setCell wr _ k _) (.inr (fun e => h.dis e.symm))).alloc _

theorem Pre.neS {w wr : World} {k p : Nat} {v : Value} {cs : List Nat} {cur : Array Value} (h : Pre w wr k p v cs cur) : some (w.heap.size + 1) ≠ v.ownBlock := row_ne h.sto.row h.sto.blk (fun c hc => by cases hc)

theorem Pre.cellW {w wr : World} {k p : Nat} {v : Value} {cs : List Nat} {cur : Array Value} (h : Pre w wr k p v cs cur) :
    ((wr.setCell ⟨w.heap.size + 1 + 1, k, none⟩ (.chan (some wr.heap.size))).alloc (.chan 1 #[] false 0 0 false)).cell? ⟨w.heap.size + 1, 10, none⟩ = some v := by
  have hlt : w.heap.size + 1 < wr.heap.size := (Array.getElem?_eq_some_iff.1 h.sto.blk).1
  refine (st_cell (a := 0) (b := 0) (gen := 0) (mb := w.heap.size) (v := v) ?_ 10).trans rfl
  rw [Below.heap_alloc _ _ _ (by simp [World.setCell]; omega), Below.heap_setCell _ _ _ _ (by show w.heap.size + 1 ≠ w.heap.size + 1 + 1; omega)]
  exact h.sto.blk

/-- The Store's block behind the append. -/
theorem Pre.blk2 {w wr w2 : World} {k p : Nat} {v : Value} {cs : List Nat} {cur : Array Value} {x : Value} (_h : Pre w wr k p v cs cur)
    (hg2 : (((wr.setCell ⟨w.heap.size + 1 + 1, k, none⟩ (.chan (some wr.heap.size))).alloc (.chan 1 #[] false 0 0 false)).alloc (.cells #[x] 42)).grownBy w2 v.ownBlock) :
    ∀ b, b < wr.heap.size → some b ≠ v.ownBlock → w2.heap[b]? = (wr.setCell ⟨w.heap.size + 1 + 1, k, none⟩ (.chan (some wr.heap.size))).heap[b]? := by
  intro b hb hne
  rw [hg2.block b (by simp [World.setCell]; omega) hne, Below.heap_alloc _ _ _ (by simp [World.setCell]; omega), Below.heap_alloc _ _ _ (by simp [World.setCell]; omega)]

theorem Pre.step {w wr w2 : World} {k p g cap' : Nat} {v : Value} {cs : List Nat} {cur : Array Value} {x : Value} (h : Pre w wr k p v cs cur) (hk : k < p)
    (hg2 : (((wr.setCell ⟨w.heap.size + 1 + 1, k, none⟩ (.chan (some wr.heap.size))).alloc (.chan 1 #[] false 0 0 false)).alloc (.cells #[x] 42)).grownBy w2 v.ownBlock)
    (hpl : some g = v.ownBlock ∨ g = wr.heap.size + 1 + 1)
    (hrow : w2.ownsRow w.heap.size 42 1 (.slice (some ⟨g, 0, none⟩) (k + 1) cap') (k + 1) (cs.map cv ++ [.chan (some wr.heap.size)])) :
    Pre w (w2.setCell ⟨w.heap.size + 1, 10, none⟩ (.slice (some ⟨g, 0, none⟩) (k + 1) cap')) (k + 1) p (.slice (some ⟨g, 0, none⟩) (k + 1) cap') (cs ++ [wr.heap.size]) (cur.setIfInBounds k (.chan (some wr.heap.size))) := by
  have hltS : w.heap.size + 1 < wr.heap.size := (Array.getElem?_eq_some_iff.1 h.sto.blk).1
  have hltO : w.heap.size + 1 + 1 < wr.heap.size := (Array.getElem?_eq_some_iff.1 h.old).1
  have hS2 : w2.heap[w.heap.size + 1]? = some (.cells (stC 0 0 0 w.heap.size v) 41 (0, 0)) := by
    rw [h.blk2 hg2 _ hltS h.neS, Below.heap_setCell _ _ _ _ (by show w.heap.size + 1 ≠ w.heap.size + 1 + 1; omega)]
    exact h.sto.blk
  have hgS : some (w.heap.size + 1) ≠ (Value.slice (some ⟨g, 0, none⟩) (k + 1) cap').ownBlock := row_ne hrow hS2 (fun c hc => by cases hc)
  have hO2 : w2.heap[w.heap.size + 1 + 1]? = some (.cells (cur.setIfInBounds k (.chan (some wr.heap.size))) 42 (0, 0)) := by
    rw [h.blk2 hg2 _ hltO h.dis]
    exact heap_setCell_same wr _ k cur 42 _ h.old
  have hsz2 : wr.heap.size + 1 + 1 ≤ w2.heap.size := by have := hg2.size; simp [World.setCell] at this; omega
  refine ⟨⟨heap_setCell_same w2 _ 10 _ 41 _ hS2, ?_, by omega⟩, by simp [h.len], ?_, by simp [h.osz], ?_, ?_, ?_⟩
  · have h1 := hrow.kept (grown_setCell w2 (w.heap.size + 1) 10 (.slice (some ⟨g, 0, none⟩) (k + 1) cap')) (.inr (fun e => hgS e.symm))
    simpa [h.len, cv] using h1
  · rw [Below.heap_setCell _ _ _ _ (by show w.heap.size + 1 + 1 ≠ w.heap.size + 1; omega)]
    exact hO2
  · intro j hj
    have hl := h.len
    by_cases hjk : j < cs.length
    · rw [List.getElem_append_left hjk, Array.getElem?_setIfInBounds_ne (by omega)]
      exact h.ocs j hjk
    · have e : j = cs.length := by simp at hj; omega
      subst e
      have hos := h.osz
      obtain rfl : k = cs.length := hl.symm
      simp [cv, hos, hk]
  · simp only [Value.ownBlock]
    intro e
    have e2 : w.heap.size + 1 + 1 = g := by simpa using e
    rcases hpl with hp | hp
    · exact h.dis (by rw [e2]; exact hp)
    · omega
  · have hw1 : Below w.heap.size w (((wr.setCell ⟨w.heap.size + 1 + 1, k, none⟩ (.chan (some wr.heap.size))).alloc (.chan 1 #[] false 0 0 false)).alloc (.cells #[x] 42)) :=
      ((h.bel.setCell (by show w.heap.size ≤ w.heap.size + 1 + 1; omega) _).alloc (by simp [World.setCell]; omega) _).alloc (by simp [World.setCell]; omega) _
    exact (hw1.grown hg2 (by simp [World.setCell]; omega) (fun b hb => (h.sto.row.lt b hb).1)).setCell (by show w.heap.size ≤ w.heap.size + 1; omega) _

/-- The first k watched channels lie behind the p old ones, and in the row 'got'. -/
structure Got (w wr : World) (k p G n : Nat) (v : Value) (cs gs : List Nat) (cur : Array Value) : Prop where
  sto : Sto wr w.heap.size (w.heap.size + 1) 0 w.heap.size v (cs ++ gs)
  clen : cs.length = p
  glen : gs.length = k
  old : wr.heap[w.heap.size + 1 + 1]? = some (.cells cur 42 (0, 0))
  osz : cur.size = p
  ocs : ∀ j (h : j < cs.length), cur[j]? = some (cv cs[j])
  dis : some (w.heap.size + 1 + 1) ≠ v.ownBlock
  grow : wr.ownsRow w.heap.size 44 1 (.slice (some ⟨G, 0, none⟩) k n) k (gs.map cv)
  glt : ∀ g ∈ gs, g < wr.heap.size
  bel : Below w.heap.size w wr

theorem Pre.got {w wr w1 : World} {p n : Nat} {v : Value} {cs : List Nat} {cur : Array Value} (h : Pre w wr p p v cs cur) (hown : w1.ownsRow w.heap.size 44 1 (.slice (some ⟨wr.heap.size, 0, none⟩) 0 n) 0 []) (hg : wr.grownBy w1 none) :
    Got w w1 0 p wr.heap.size n v cs [] cur := by
  have hltS : w.heap.size + 1 < wr.heap.size := (Array.getElem?_eq_some_iff.1 h.sto.blk).1
  have hltO : w.heap.size + 1 + 1 < wr.heap.size := (Array.getElem?_eq_some_iff.1 h.old).1
  refine ⟨⟨(hg.block _ hltS (by simp)).trans h.sto.blk, ?_, h.sto.hS⟩, h.len, rfl, (hg.block _ hltO (by simp)).trans h.old, h.osz, h.ocs, h.dis, hown, fun g hg => by simp at hg, h.bel.grown hg h.bel.size (fun k hk => by cases hk)⟩
  have h1 := h.sto.row.kept hg (by cases hv : v.ownBlock <;> simp)
  simpa using h1

theorem own_ne {w : World} {base e e' n n' : Nat} {v v' : Value} {xs xs' : List Value} (h : w.ownsRow base e 1 v n xs) (h' : w.ownsRow base e' 1 v' n' xs') (hee : e ≠ e') {g : Nat} (hg : v'.ownBlock = some g) : v.ownBlock ≠ some g := by
  intro hv
  rcases h'.2 with ⟨rfl, _⟩ | ⟨g', cap, cur, rfl, _, hgg, _⟩
  · cases hg
  · cases hg
    exact row_ne h hgg (fun c hc => by cases hc; exact hee rfl) hv.symm

/-- Behind a call of Watch: all that was, and the new channel. -/
structure Gone (w w2 : World) (k p G n c : Nat) (v' : Value) (cs gs : List Nat) (cur : Array Value) : Prop where
  sto : Sto w2 w.heap.size (w.heap.size + 1) 0 w.heap.size v' (cs ++ gs ++ [c])
  old : w2.heap[w.heap.size + 1 + 1]? = some (.cells cur 42 (0, 0))
  dis : some (w.heap.size + 1 + 1) ≠ v'.ownBlock
  grow : w2.ownsRow w.heap.size 44 1 (.slice (some ⟨G, 0, none⟩) k n) k (gs.map cv)
  glt : ∀ g ∈ gs, g < c
  clt : c < w2.heap.size
  chn : w2.heap[c]? = some (.chan 1 #[] false 0 0 false)
  bel : Below w.heap.size w w2

theorem Got.watch {w wr : World} {k p G n : Nat} {v : Value} {cs gs : List Nat} {cur : Array Value} (h : Got w wr k p G n v cs gs cur) (hp : p ≤ 15) (hk : k ≤ 1024) :
    Calls Yba.prog 7 #[.pointer (some ⟨w.heap.size + 1, 0, none⟩)] wr fun e w2 => e = .returned (.chan (some wr.heap.size)) ∧ ∃ v', Gone w w2 k p G n wr.heap.size v' cs gs cur := by
  have hltO : w.heap.size + 1 + 1 < wr.heap.size := (Array.getElem?_eq_some_iff.1 h.old).1
  refine (watch_any h.sto (by rw [List.length_append, h.clen, h.glen]; omega) h.bel.size).mono ?_
  rintro e w2 ⟨rfl, v', hsto, hch, has, hlt⟩
  refine ⟨rfl, v', hsto, ?_, ?_, ?_, h.glt, hlt, hch, ?_⟩
  · rw [has.block _ hltO (by omega) h.dis]
    exact h.old
  · obtain ⟨g, hg, hpl⟩ := has.place
    rw [hg]
    intro e
    cases e
    rcases hpl with hp | hp
    · exact h.dis hp
    · omega
  · have hGS : some (w.heap.size + 1) ≠ (Value.slice (some ⟨G, 0, none⟩) k n).ownBlock := row_ne h.grow h.sto.blk (fun c hc => by cases hc)
    have hGv := own_ne h.sto.row h.grow (by decide) (g := G) rfl
    rcases h.grow.2 with ⟨hv, _⟩ | ⟨g', cap', cur', hv, hbg, hgg, hr⟩
    · cases hv
    · cases hv
      refine ⟨h.grow.1, .inr ⟨G, n, cur', rfl, hbg, ?_, hr⟩⟩
      rw [has.block G (Array.getElem?_eq_some_iff.1 hgg).1 (fun e => hGS (by rw [← e]; rfl)) (fun e => hGv e.symm)]
      exact hgg
  · exact h.bel.trans ⟨has.os, has.tape, has.output, has.size, fun b hb => has.block b (by omega) (by omega) (fun e => by have := (h.sto.row.lt b e.symm).1; omega)⟩

theorem Gone.next {w w2 w3 : World} {k p G n c : Nat} {v' : Value} {cs gs : List Nat} {cur : Array Value} {x : Value} (h : Gone w w2 k p G n c v' cs gs cur) (hc : cs.length = p) (hg : gs.length = k) (hoz : cur.size = p) (hoc : ∀ j (h : j < cs.length), cur[j]? = some (cv cs[j]))
    (hown : w3.ownsRow w.heap.size 44 1 (.slice (some ⟨G, 0, none⟩) (k + 1) n) (k + 1) (gs.map cv ++ [.chan (some c)])) (hg3 : (w2.alloc (.cells #[x] 44)).grownBy w3 (some G)) : Got w w3 (k + 1) p G n v' cs (gs ++ [c]) cur := by
  have hltS : w.heap.size + 1 < w2.heap.size := (Array.getElem?_eq_some_iff.1 h.sto.blk).1
  have hltO : w.heap.size + 1 + 1 < w2.heap.size := (Array.getElem?_eq_some_iff.1 h.old).1
  have hGS : some (w.heap.size + 1) ≠ some G := row_ne h.grow h.sto.blk (fun c hc => by cases hc)
  have hGO : some (w.heap.size + 1 + 1) ≠ some G := row_ne h.grow h.old (fun c hc => by cases hc)
  have hGv := own_ne h.sto.row h.grow (by decide) (g := G) rfl
  have hsz : w2.heap.size + 1 ≤ w3.heap.size := by have := hg3.size; simpa using this
  refine ⟨⟨?_, ?_, h.sto.hS⟩, hc, by simp [hg], ?_, hoz, hoc, h.dis, ?_, ?_, ?_⟩
  · rw [hg3.block _ (by simp; omega) hGS, Below.heap_alloc _ _ _ hltS]
    exact h.sto.blk
  · have h1 := (h.sto.row.alloc (.cells #[x] 44)).kept hg3 (.inr hGv)
    simpa using h1
  · rw [hg3.block _ (by simp; omega) hGO, Below.heap_alloc _ _ _ hltO]
    exact h.old
  · simpa [cv] using hown
  · intro g hgm
    rcases List.mem_append.1 hgm with h1 | h1
    · have := h.glt g h1; have := h.clt; omega
    · have := h.clt; simp at h1; omega
  · exact (h.bel.alloc h.bel.size _).grown hg3 (by have := h.bel.size; simp; omega) (fun b hb => by cases hb; exact (h.grow.lt G rfl).1)

/-- What the last two loops read. -/
theorem Got.reads {w wr : World} {k p G n : Nat} {v : Value} {cs gs : List Nat} {cur : Array Value} (h : Got w wr k p G n v cs gs cur) :
    ∃ ao cap, v = .slice ao (p + k) cap ∧ wr.cell? ⟨w.heap.size + 1, 10, none⟩ = some (.slice ao (p + k) cap) ∧
      (0 < p + k → ∃ g, ao = some ⟨g, 0, none⟩ ∧ (∀ j (hj : j < cs.length), wr.cell? ⟨g, j, none⟩ = some (.chan (some cs[j]))) ∧ (∀ j (hj : j < gs.length), wr.cell? ⟨g, p + j, none⟩ = some (.chan (some gs[j])))) ∧
      (∀ j (hj : j < cs.length), wr.cell? ⟨w.heap.size + 1 + 1, j, none⟩ = some (.chan (some cs[j]))) ∧ (∀ j (hj : j < gs.length), wr.cell? ⟨G, j, none⟩ = some (.chan (some gs[j]))) := by
  have hl : (cs ++ gs).length = p + k := by rw [List.length_append, h.clen, h.glen]
  have hr := h.sto.row
  rw [hl] at hr
  obtain ⟨ao, cap, rfl⟩ := own_shape hr
  refine ⟨ao, cap, rfl, by rw [st_cell h.sto.blk 10]; rfl, ?_, ?_, ?_⟩
  · intro hpos
    rcases hr.2 with ⟨_, h0⟩ | ⟨g, cap', cur', hv, _⟩
    · omega
    · cases hv
      have hc : ∀ j (hj : j < (cs ++ gs).length), wr.cell? ⟨g, j, none⟩ = some (.chan (some (cs ++ gs)[j])) := fun j hj => by
        have h1 := hr.cells rfl j (cv (cs ++ gs)[j]) (by rw [List.getElem?_map, List.getElem?_eq_getElem hj]; rfl)
        rw [Addr.add_lit, Nat.zero_add] at h1
        exact h1
      refine ⟨g, rfl, fun j hj => ?_, fun j hj => ?_⟩
      · have h1 := hc j (by rw [List.length_append]; omega)
        rw [List.getElem_append_left hj] at h1
        exact h1
      · have h1 := hc (p + j) (by rw [List.length_append, h.clen]; omega)
        rw [List.getElem_append_right (by rw [h.clen]; omega)] at h1
        simp only [h.clen, Nat.add_sub_cancel_left] at h1
        exact h1
  · intro j hj
    rw [cell_of_row wr _ j cur 42 (0, 0) h.old, h.ocs j hj]
    rfl
  · intro j hj
    have h1 := h.grow.cells rfl j (cv gs[j]) (by simp [hj])
    rw [Addr.add_lit, Nat.zero_add] at h1
    exact h1

set_option maxRecDepth 1000000 in
set_option maxHeartbeats 1000000 in
theorem appends_le (a0 a1 : Int) (w : World) (h00 : 0 ≤ a0) (h01 : a0 ≤ 255) (h10 : 0 ≤ a1) (h11 : a1 ≤ 1024) :
    Calls Yba.prog 3 #[.int .u8 a0, .int .u16 a1] w fun e w' => e = .returned (.bool true) ∧ Below w.heap.size w w' := by
  have hmk := mk1
  have hmm := @run_makeMap Yba.prog
  obtain ⟨i42, hi, hz0, hz1, hz2⟩ := info_parts info42
  obtain ⟨i44, ji, jz0, jz1, jz2⟩ := info_parts info44
  obtain ⟨p, hp⟩ : ∃ p : Nat, a0 % 16 = (p : Int) := ⟨(a0 % 16).toNat, by omega⟩
  have hp15 : p ≤ 15 := by omega
  obtain ⟨n, rfl⟩ : ∃ n : Nat, a1 = (n : Int) := ⟨a1.toNat, by omega⟩
  have hn : n ≤ 1024 := by omega
  go_enter Yba.func3, Yba.ntmps3
  go_wp2_with (at_make; refine wpList_make_full _ rfl _ _ 37 rfl w.heap.size 42 i42 (.chan none) 1 Yba.underlying37 hi hz0 hz1 _ _ _ _ p rfl rfl (by omega) (by omega) ?b2 ?b3 ?b4 ?_)
  case b2 => rw [hz2]; omega
  case b3 => unfold maxLen; omega
  case b4 => simp; omega
  intro w1 hown1 hg1
  have hst1 : Pre w w1 0 p (.slice none 0 0) [] (madeCells #[Value.chan none] p) := start_pre hown1 hg1
  have hb1 : Hid (Pre w w1 0 p (.slice none 0 0) [] (madeCells #[Value.chan none] p)) := hst1
  clear hst1 hown1 hg1
  go_wp2
  go_loopw [8, 9] (fun t _ wr => ∃ (k : Nat) (ao : Option Addr) (cap : Nat) (cs : List Nat) (cur : Array Value), k ≤ p ∧ t = .int .i64 k ∧ Hid (Pre w wr k p (.slice ao k cap) cs cur)) (fun t _ _ => p - (intOf t).toNat)
  case atStart => exact ⟨0, none, 0, [], _, Nat.zero_le _, rfl, hb1⟩
  case round =>
    obtain ⟨k, ao, cap, cs, cur, hk, rfl, hpre⟩ := hrel
    clear hb1
    by_cases hkp : k < p
    · have hO : w.heap.size + 1 + 1 < wr.heap.size := (Array.getElem?_eq_some_iff.1 hpre.out.old).1
      obtain ⟨vo, hvo⟩ : ∃ vo, wr.cell? ⟨w.heap.size + 1 + 1, k, none⟩ = some vo := by
        rw [cell_of_row wr _ k cur 42 (0, 0) hpre.out.old]
        exact ⟨_, Array.getElem?_eq_getElem (by rw [hpre.out.osz]; exact hkp)⟩
      have hfo : wr.frozen? ⟨w.heap.size + 1 + 1, k, none⟩ = false := by simp [World.frozen?, hpre.out.old]
      have hS : w.heap.size + 1 < wr.heap.size := by omega
      have c10 := hpre.out.cellW
      have hrowW := hpre.out.rowW
      go_wp2_with (at_builtin; refine Tab.wpList_append_one _ rfl (.tmp 39) (.tmp 41) 37 rfl w.heap.size 42 i42 (.chan none) 8 Yba.underlying37 hi hz0 hz1 hz2 rfl _ _ _ rfl (hrowW.alloc _) ⟨wr.heap.size + 1, 0, none⟩ 1 (.chan (some wr.heap.size)) rfl ?c1 ?c2 ?c3 ?c4 ?c5 ?_)
      case c1 =>
        have hone := cell_one_new ((wr.setCell ⟨w.heap.size + 1 + 1, k, none⟩ (.chan (some wr.heap.size))).alloc (.chan 1 #[] false 0 0 false)) (.chan (some wr.heap.size)) 42
        have e : ((wr.setCell ⟨w.heap.size + 1 + 1, k, none⟩ (.chan (some wr.heap.size))).alloc (.chan 1 #[] false 0 0 false)).heap.size = wr.heap.size + 1 := by simp [World.setCell]
        rw [e] at hone
        exact hone
      case c2 => intro u hu; simp at hu; subst hu; rfl
      case c3 => unfold maxLen; omega
      case c4 => omega
      case c5 => simp [World.setCell]; omega
      intro g cap' w2 hrow2 hg2 hpl
      have hgg : Hid ((((wr.setCell ⟨w.heap.size + 1 + 1, k, none⟩ (.chan (some wr.heap.size))).alloc (.chan 1 #[] false 0 0 false)).alloc (.cells #[.chan (some wr.heap.size)] 42)).grownBy w2 (Value.slice ao k cap).ownBlock) := hg2
      have hpp : Hid (some g = (Value.slice ao k cap).ownBlock ∨ g = wr.heap.size + 1 + 1) := hpl
      have hb2 : w2.heap[w.heap.size + 1]? = some (.cells (stC 0 0 0 w.heap.size (.slice ao k cap)) 41 (0, 0)) := by
        rw [hpre.out.blk2 hg2 _ hS hpre.out.neS, Below.heap_setCell _ _ _ _ (by show w.heap.size + 1 ≠ w.heap.size + 1 + 1; omega)]
        exact hpre.out.sto.blk
      have d10 : w2.cell? ⟨w.heap.size + 1, 10, none⟩ = some (.slice ao k cap) := by rw [st_cell hb2 10]; rfl
      have f10 : w2.frozen? ⟨w.heap.size + 1, 10, none⟩ = false := st_free hb2 10
      clear hb2 hg2 hpl
      go_wp2
      go_roundw
      case rel => first | exact ⟨k + 1, _, cap', _, _, by omega, by go_num, hpre.out.step hkp hgg.out hpp.out hrow2⟩ | ((repeat apply Exists.intro); exact ⟨⟨k + 1, _, cap', _, _, by omega, by go_num, hpre.out.step hkp hgg.out hpp.out hrow2⟩, rfl⟩)
      case measure => simp [intOf]; omega
    · obtain rfl : k = p := by omega
      go_wp2_with (at_make; refine wpList_make_own _ rfl _ _ 43 rfl w.heap.size 44 i44 (.chan none) 1 Yba.underlying43 ji jz0 jz1 _ _ _ n rfl rfl (by omega) ?e2 ?e3 ?e4 ?_)
      case e2 => rw [jz2]; omega
      case e3 => unfold maxLen; omega
      case e4 => exact hpre.out.bel.size
      intro w1 hown1 hg1
      have hgot0 : Hid (Got w w1 0 k wr.heap.size n (.slice ao k cap) cs [] cur) := hpre.out.got hown1 hg1
      clear hown1 hg1
      obtain ⟨G, hG⟩ : ∃ G, G = wr.heap.size := ⟨_, rfl⟩
      have hclen : Hid (cs.length = k) := hpre.out.len
      have hoz : Hid (cur.size = k) := hpre.out.osz
      have hoc : Hid (∀ j (h : j < cs.length), cur[j]? = some (cv cs[j])) := hpre.out.ocs
      clear hpre
      rw [← hG] at hgot0 ⊢
      clear hG
      have hqn := fun wx a b => run_eql_chan (P := Yba.prog) wx (t := 44) a b Yba.underlying44
      go_wp2
      go_loopw [10, 11] (fun gv t wr => ∃ (q : Nat) (vv : Value) (gs : List Nat), q ≤ n ∧ t = .int .i64 q ∧ gv = .slice (some ⟨G, 0, none⟩) q n ∧ Hid (Got w wr q k G n vv cs gs cur)) (fun _ t _ => n - (intOf t).toNat)
      case atStart => exact ⟨0, _, [], Nat.zero_le _, rfl, rfl, hgot0⟩
      case round =>
        clear hgot0
        obtain ⟨q, vv, gs, hq, rfl, rfl, hgot⟩ := hrel
        by_cases hqn' : q < n
        · go_wp2_with fail
          refine (hgot.out.watch hp15 (by omega)).mono ?_
          rintro e w2 ⟨rfl, v', hgone⟩
          obtain ⟨c, hc⟩ : ∃ c, c = wr.heap.size := ⟨_, rfl⟩
          rw [← hc] at hgone ⊢
          have hglen : Hid (gs.length = q) := hgot.out.glen
          clear hc hgot
          have HG : Hid (Gone w w2 q k G n c v' cs gs cur) := hgone
          have hl1 := fun ty => Conc.run_len_chan (P := Yba.prog) 44 ty Yba.underlying44 hgone.chn
          have hl2 := fun ty => Conc.run_cap_chan (P := Yba.prog) 44 ty Yba.underlying44 hgone.chn
          have hgrow := hgone.grow
          clear hgone
          cases q with
          | zero =>
            go_wp2_with (at_builtin; refine wpList_append_fits _ rfl (.tmp 81) (.tmp 83) 43 rfl w.heap.size 44 i44 1 Yba.underlying43 ji jz1 G 0 n _ rfl (hgrow.alloc _) ⟨w2.heap.size, 0, none⟩ 1 1 [.chan (some c)] rfl rfl ?f1 ?f2 (by omega) ?_)
            case f1 => exact cell_one_new _ _ _
            case f2 => intro u hu; simp at hu; subst hu; rfl
            intro w3 hrow3 hg3
            have hnew := HG.out.next hclen.out hglen.out hoz.out hoc.out (by simpa using hrow3) hg3
            clear hrow3 hg3
            go_wp2
            go_roundw
            case rel => first | exact ⟨1, _, _, by omega, by go_num, rfl, hnew⟩ | ((repeat apply Exists.intro); exact ⟨⟨1, _, _, by omega, by go_num, rfl, hnew⟩, rfl⟩)
            case measure => simp [intOf]; omega
          | succ q' =>
            have hlast : Hid (q' < gs.length) := by have := hglen.out; show _ < _; omega
            have hcl : w2.cell? ⟨G, q', none⟩ = some (.chan (some (gs[q']'hlast.out))) := by
              have h1 := hgrow.cells rfl q' (cv (gs[q']'hlast.out)) (by simp [hlast.out])
              rw [Addr.add_lit, Nat.zero_add] at h1
              exact h1
            have hcne : ((some (gs[q']'hlast.out) : Option Nat) == some c) = false := by
              have := HG.out.glt _ (List.getElem_mem hlast.out)
              simp
              omega
            obtain ⟨cl, hcl2⟩ : ∃ cl, cl = gs[q']'hlast.out := ⟨_, rfl⟩
            rw [← hcl2] at hcl hcne
            clear hcl2
            go_wp2_with (at_builtin; refine wpList_append_fits _ rfl (.tmp 81) (.tmp 83) 43 rfl w.heap.size 44 i44 1 Yba.underlying43 ji jz1 G (q' + 1) n _ rfl (hgrow.alloc _) ⟨w2.heap.size, 0, none⟩ 1 1 [.chan (some c)] rfl rfl ?f1 ?f2 (by omega) ?_)
            case f1 => exact cell_one_new _ _ _
            case f2 => intro u hu; simp at hu; subst hu; rfl
            intro w3 hrow3 hg3
            have hnew := HG.out.next hclen.out hglen.out hoz.out hoc.out hrow3 hg3
            clear hrow3 hg3
            go_wp2
            go_roundw
            case rel => first | exact ⟨q' + 1 + 1, _, _, by omega, by go_num, rfl, hnew⟩ | ((repeat apply Exists.intro); exact ⟨⟨q' + 1 + 1, _, _, by omega, by go_num, rfl, hnew⟩, rfl⟩)
            case measure => simp [intOf]; omega
        · obtain rfl : q = n := by omega
          obtain ⟨ao2, cap2, _, c10, hrw, hro, hrg⟩ := hgot.out.reads
          have HRW : Hid (0 < k + q → ∃ g, ao2 = some ⟨g, 0, none⟩ ∧ (∀ j (hj : j < cs.length), wr.cell? ⟨g, j, none⟩ = some (.chan (some cs[j]))) ∧ (∀ j (hj : j < gs.length), wr.cell? ⟨g, k + j, none⟩ = some (.chan (some gs[j])))) := hrw
          have HRO : Hid (∀ j (hj : j < cs.length), wr.cell? ⟨w.heap.size + 1 + 1, j, none⟩ = some (.chan (some cs[j]))) := hro
          have HRG : Hid (∀ j (hj : j < gs.length), wr.cell? ⟨G, j, none⟩ = some (.chan (some gs[j]))) := hrg
          have hglen : Hid (gs.length = q) := hgot.out.glen
          have hbel : Hid (Below w.heap.size w wr) := hgot.out.bel
          have hqm := fun wx a b => run_neq_chan (P := Yba.prog) wx (t := 42) a b Yba.underlying42
          have hqk := fun wx a b => run_neq_chan (P := Yba.prog) wx (t := 44) a b Yba.underlying44
          clear hrw hro hrg hgot hqn
          obtain ⟨wo, hwo⟩ : ∃ wo : World, wo = wr := ⟨_, rfl⟩
          subst hwo
          go_wp2
          go_loopw [13] (fun t wx => ∃ j : Nat, j ≤ k ∧ t = .int .i64 j ∧ Hid (∃ d, wx = wo.drewN d)) (fun t _ => k - (intOf t).toNat)
          case atStart => exact ⟨0, Nat.zero_le _, rfl, 0, rfl⟩
          case round =>
            obtain ⟨j, hj, rfl, hw⟩ := hrel
            by_cases hjk : j < k
            · have hjl : Hid (j < cs.length) := by have := hclen.out; show _ < _; omega
              obtain ⟨g2, rfl, r1, _⟩ := HRW.out (by omega)
              obtain ⟨cj, hcj⟩ : ∃ cj, cj = cs[j]'hjl.out := ⟨_, rfl⟩
              obtain ⟨e1, e2, e3⟩ : wr.cell? ⟨w.heap.size + 1, 10, none⟩ = some (.slice (some ⟨g2, 0, none⟩) (k + q) cap2) ∧ wr.cell? ⟨g2, j, none⟩ = some (.chan (some cj)) ∧ wr.cell? ⟨w.heap.size + 1 + 1, j, none⟩ = some (.chan (some cj)) := by
                obtain ⟨d, rfl⟩ := hw.out
                rw [hcj]
                exact ⟨c10, r1 j hjl.out, HRO.out j hjl.out⟩
              clear c10 r1 hcj
              go_wp2_with fail
              go_quiet (fail)
              go_wp2
              go_roundw
              case rel => exact ⟨j + 1, by omega, by go_num, by obtain ⟨d, rfl⟩ := hw.out; exact ⟨d + nq, by simp⟩⟩
              case measure => simp [intOf]; omega
            · go_wp2
              obtain ⟨wp, hwp⟩ : ∃ wp : World, wp = wr := ⟨_, rfl⟩
              subst hwp
              go_loopw [14] (fun t wx => ∃ j : Nat, j ≤ q ∧ t = .int .i64 j ∧ Hid (∃ d, wx = wo.drewN d)) (fun t _ => q - (intOf t).toNat)
              case atStart => exact ⟨0, Nat.zero_le _, rfl, hw⟩
              case round =>
                clear hw
                obtain ⟨i, hi2, rfl, hw⟩ := hrel
                by_cases hiq : i < q
                · have hil : Hid (i < gs.length) := by have := hglen.out; show _ < _; omega
                  obtain ⟨g2, rfl, _, r2⟩ := HRW.out (by omega)
                  obtain ⟨ci, hci⟩ : ∃ ci, ci = gs[i]'hil.out := ⟨_, rfl⟩
                  obtain ⟨e1, e2, e3⟩ : wr.cell? ⟨w.heap.size + 1, 10, none⟩ = some (.slice (some ⟨g2, 0, none⟩) (k + q) cap2) ∧ wr.cell? ⟨g2, k + i, none⟩ = some (.chan (some ci)) ∧ wr.cell? ⟨G, i, none⟩ = some (.chan (some ci)) := by
                    obtain ⟨d, rfl⟩ := hw.out
                    rw [hci]
                    exact ⟨c10, r2 i hil.out, HRG.out i hil.out⟩
                  clear c10 r2 hci
                  go_wp2_with fail
                  go_quiet (fail)
                  go_wp2
                  go_roundw
                  case rel => exact ⟨i + 1, by omega, by go_num, by obtain ⟨d, rfl⟩ := hw.out; exact ⟨d + nq, by simp⟩⟩
                  case measure => simp [intOf]; omega
                · go_wp2
                  go_ret
                  exact ⟨rfl, by obtain ⟨d, rfl⟩ := hw.out; exact below_drewN hbel.out _⟩
end Go.Proofs.Ybulkdfpm.Watch
