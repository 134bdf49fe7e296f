/-
  The walk of apply over no changes.
-/
import Derived.Test.YbulkdfpmWatch
import Derived.Test.YbulkdfpmSelect
namespace Go.Proofs.Ybulkdfpm.Watch
open Go.RowKit Go.RwLone Sel

theorem range0 {w : World} {m : Nat} (h : w.heap[m]? = some (.map #[] 0)) : (Instr.range 24 (.map (some m))).run Yba.prog w = .ok (.pointer (some ⟨w.heap.size, 0, none⟩)) (w.alloc (.mapIter (some m) 0 #[] 0)) := by
  simp [Instr.range, run_underlying Yba.underlying24, MapKept.run_getObj_map h]

theorem next0 {w : World} {m it : Nat} (hi : w.heap[it]? = some (.mapIter (some m) 0 #[] 0)) (h : w.heap[m]? = some (.map #[] 0)) (ty : TypeId) :
    (Instr.next (.pointer (some ⟨it, 0, none⟩)) false ty).run Yba.prog w = .ok (.tuple #[.bool false]) w := by
  simp only [Instr.next, getObj, Sem.run_bind, Sem.run, hi, h, Result.andThen]
  have e1 : Array.filter (fun e : MapEntry => !(#[] : Array Nat).contains e.born) #[] = #[] := by kernel_rfl
  have e2 : ∀ f : MapEntry → Bool, Array.filter f #[] = #[] := fun f => by simp
  simp only [e1, e2]
  simp [choose, Sem.run, Question.forced]

/-- The frame at the head of a round over the watchers. -/
def actAt (S m it n cap : Nat) (g2 : Int) (ao : Option Addr) (j : Nat) (u11 u86 u87 u88 u89 u90 u91 u92 u93 u94 : Value) : Act :=
  { tmps := #[.pointer (some ⟨S, 0, none⟩), .int .i64 g2, .map (some m), undef, undef, undef, undef, undef, undef, undef, undef, u11, .pointer (some ⟨S, 0, none⟩), .pointer (some ⟨S, 0, none⟩), .pointer (some ⟨S, 2, none⟩), .tuple #[], .pointer (some ⟨S, 0, none⟩), .pointer (some ⟨S, 0, none⟩), .pointer (some ⟨S, 2, none⟩), .pointer (some ⟨S, 0, none⟩), .int .i64 g2, .pointer (some ⟨S, 0, none⟩), .pointer (some ⟨S, 8, none⟩), .map (some m), .pointer (some ⟨it, 0, none⟩), .tuple #[.bool false], .bool false, undef, undef, undef, undef, undef, undef, undef, undef, undef, undef, undef, undef, undef, undef, undef, undef, undef, undef, undef, undef, undef, undef, undef, undef, undef, undef, undef, undef, undef, undef, undef, undef, undef, undef, undef, undef, undef, undef, undef, undef, undef, undef, undef, undef, undef, undef, undef, undef, undef, undef, undef, undef, undef, .pointer (some ⟨S, 0, none⟩), .pointer (some ⟨S, 0, none⟩), .pointer (some ⟨S, 10, none⟩), .slice ao n cap, .int .i64 n, .int .i64 j, u86, u87, u88, u89, u90, u91, u92, u93, u94], defers := [{ target := Target.fn (Fn.func 14) #[], args := #[.pointer (some ⟨S, 2, none⟩)] }] }

/-- A channel of capacity one, open. -/
def ChSt (w : World) (c : Nat) : Prop := ∃ buf s r, w.heap[c]? = some (.chan 1 buf false s r false) ∧ buf.size ≤ 1
/-- .. with a signal in it. -/
def ChFull (w : World) (c : Nat) : Prop := ∃ buf s r, w.heap[c]? = some (.chan 1 buf false s r false) ∧ buf.size = 1

/-- The rounds over the watchers, j of them done: every channel is as it was or has its signal; the first j have theirs; nothing else has turned. -/
structure Tells (w3 wr : World) (cs : List Nat) (j : Nat) : Prop where
  all : ∀ c ∈ cs, ChSt wr c
  done : ∀ i (h : i < cs.length), i < j → ChFull wr cs[i]
  os : wr.os = w3.os
  tape : wr.tape = w3.tape
  output : wr.output = w3.output
  size : wr.heap.size = w3.heap.size
  block : ∀ k, k ∉ cs → wr.heap[k]? = w3.heap[k]?

theorem bd (w : World) : (Instr.build 25 #[]).run Yba.prog w = .ok (.agg #[]) w := run_build w 25 #[] #[] (by kernel_rfl)

theorem setChan_other (w : World) (c c' cap : Nat) (buf : Array Value) (closed : Bool) (s r : Nat) (tm : Bool) (h : c ≠ c') : (w.setChan c cap buf closed s r tm).heap[c']? = w.heap[c']? := by
  simp [World.setChan, Array.getElem?_setIfInBounds_ne h]

theorem Tells.sent {w3 wr : World} {cs : List Nat} {j s r : Nat} {x : Value} (h : Tells w3 wr cs j) (hj : j < cs.length) (hc : wr.heap[cs[j]]? = some (.chan 1 #[] false s r false)) :
    Tells w3 (wr.setChan cs[j] 1 #[x] false (s + 1) r false) cs (j + 1) := by
  have hlt : cs[j] < wr.heap.size := (Array.getElem?_eq_some_iff.1 hc).1
  have hnew := Conc.heap_setChan wr cs[j] 1 #[x] false (s + 1) r false hlt
  refine ⟨fun c hcm => ?_, fun i hi hij => ?_, h.os, h.tape, h.output, by rw [Conc.size_setChan]; exact h.size, fun k hk => ?_⟩
  · by_cases e : cs[j] = c
    · subst e
      exact ⟨_, _, _, hnew, by simp⟩
    · obtain ⟨buf, s', r', hb, hs⟩ := h.all c hcm
      exact ⟨buf, s', r', (setChan_other _ _ _ _ _ _ _ _ _ e).trans hb, hs⟩
  · by_cases e : cs[j] = cs[i]
    · rw [← e]
      exact ⟨_, _, _, hnew, by simp⟩
    · have hij' : i < j := by
        rcases Nat.lt_or_ge i j with h1 | h1
        · exact h1
        · exact absurd (by have : i = j := by omega
                           subst this; rfl) e
      obtain ⟨buf, s', r', hb, hs⟩ := h.done i hi hij'
      exact ⟨buf, s', r', (setChan_other _ _ _ _ _ _ _ _ _ e).trans hb, hs⟩
  · rw [setChan_other _ _ _ _ _ _ _ _ _ (fun e => hk (by rw [← e]; exact List.getElem_mem hj))]
    exact h.block k hk

theorem Tells.kept {w3 wr : World} {cs : List Nat} {j s r : Nat} {buf : Array Value} (h : Tells w3 wr cs j) (hj : j < cs.length) (hc : wr.heap[cs[j]]? = some (.chan 1 buf false s r false)) (hb : buf.size = 1) : Tells w3 wr cs (j + 1) :=
  ⟨h.all, fun i hi hij => by
    rcases Nat.lt_or_ge i j with h1 | h1
    · exact h.done i hi h1
    · have e : i = j := by omega
      subst e
      exact ⟨buf, s, r, hc, hb⟩, h.os, h.tape, h.output, h.size, h.block⟩

theorem unlock_st_d {w : World} {S mb : Nat} {gen : Int} {v : Value} (u : FrameMode) (h : w.heap[S]? = some (.cells (stC 1 (-1073741824) gen mb v) 41 (0, 0))) :
    CallsD Yba.prog 14 #[.pointer (some ⟨S, 2, none⟩)] u w fun e u' w' => u' = u ∧ e = .returned (.tuple #[]) ∧ w'.heap[S]? = some (.cells (stC 0 0 gen mb v) 41 (0, 0)) ∧ w.grownBy w' (some S) ∧ w'.heap.size = w.heap.size := by
  refine (wunlock_deferred Yba.rwWLib S 2 (.int .u32 0) (.int .u32 0) u w (st_cell h 2) (st_cell h 4) (st_cell h 5) (st_cell h 6) (st_free h 2) (st_free h 6)).mono ?_
  rintro e u' w' ⟨rfl, rfl, rfl⟩
  have h1 := heap_setCell_same w S 6 _ 41 (.int .i32 0) h
  have h2 := heap_setCell_same (w.setCell ⟨S, 6, none⟩ (.int .i32 0)) S 2 _ 41 (.int .i32 0) h1
  refine ⟨rfl, rfl, h2, ?_, by simp [World.setCell]⟩
  have g1 := grown_setCell w S 6 (.int .i32 0)
  have g2 := grown_setCell (w.setCell ⟨S, 6, none⟩ (.int .i32 0)) S 2 (.int .i32 0)
  exact ⟨rfl, rfl, rfl, by simp [World.setCell], fun k hk hne => (g2.block k (by simp [World.setCell]; exact hk) hne).trans (g1.block k hk hne)⟩

set_option maxRecDepth 1000000 in
set_option maxHeartbeats 1000000 in
theorem apply_any {w : World} {base S mb m : Nat} {gen g2 : Int} {v : Value} {cs : List Nat} (h : Sto w base S gen mb v cs) (hm : w.heap[m]? = some (.map #[] 0)) (hall : ∀ c ∈ cs, ChSt w c) (hlen : cs.length ≤ 4096) :
    Calls Yba.prog 8 #[.pointer (some ⟨S, 0, none⟩), .int .i64 g2, .map (some m)] w fun e w' => e = .returned (.tuple #[]) ∧ Sto w' base S g2 mb v cs ∧ (∀ c ∈ cs, ChFull w' c) ∧
      w'.os = w.os ∧ w'.tape = w.tape ∧ w'.output = w.output ∧ w.heap.size ≤ w'.heap.size ∧ (∀ k, k < w.heap.size → k ≠ S → k ∉ cs → w'.heap[k]? = w.heap[k]?) := by
  have HALL : Hid (∀ c ∈ cs, ChSt w c) := hall
  clear hall
  obtain ⟨ao, cap, hv⟩ := own_shape h.row
  have HV : Hid (v = .slice ao cs.length cap) := hv
  have HH : Hid (Sto w base S gen mb v cs) := h
  have hmlt : Hid (m < w.heap.size) := (Array.getElem?_eq_some_iff.1 hm).1
  have hSlt : Hid (S < w.heap.size) := (Array.getElem?_eq_some_iff.1 h.blk).1
  have hmS : m ≠ S := fun e => by subst e; rw [h.blk] at hm; cases hm
  clear h hv
  refine calls_of_wpN_defers Yba.func8 rfl ?_
  simp only [Yba.ntmps8, List.size_toArray, List.length_cons, List.length_nil, Nat.reduceAdd, Nat.reduceSub, Array.replicate_succ, Array.replicate_zero, List.push_toArray, List.append_toArray, List.nil_append, List.cons_append]
  refine wpN_seq_k fun K hK => ?_
  go_wp2_with fail
  refine (lock_st HH.out.blk).mono ?_
  rintro e w1 ⟨rfl, hb1, hg1, hs1⟩
  go_wp2
  refine wpN_seq_k fun K hK => ?_
  go_wp2
  have c8 : w1.cell? ⟨S, 8, none⟩ = some (.int .i64 gen) := by rw [st_cell hb1 8]; rfl
  have f8 : w1.frozen? ⟨S, 8, none⟩ = false := st_free hb1 8
  have hm1 : Hid (w1.heap[m]? = some (.map #[] 0)) := (hg1.block m hmlt.out (by simpa using hmS)).trans hm
  have HS1 : Hid (w1.heap.size = w.heap.size) := hs1
  have HB1 : Hid (w1.heap[S]? = some (.cells (stC 1 (-1073741824) gen mb v) 41 (0, 0))) := hb1
  have HG1 : Hid (w.grownBy w1 (some S)) := hg1
  clear hb1 hg1 hs1 hm
  refine wpN_seq_k fun K hK => ?_
  go_wp2
  obtain ⟨w2, hw2⟩ : ∃ w2, w2 = w1.setCell ⟨S, 8, none⟩ (.int .i64 g2) := ⟨_, rfl⟩
  have HB2 : Hid (w2.heap[S]? = some (.cells (stC 1 (-1073741824) g2 mb v) 41 (0, 0))) := by rw [hw2]; exact heap_setCell_same w1 S 8 _ 41 _ HB1.out
  have hm2 : Hid (w2.heap[m]? = some (.map #[] 0)) := by rw [hw2]; exact (Below.heap_setCell _ _ _ _ (by exact hmS)).trans hm1.out
  have HS2 : Hid (w2.heap.size = w.heap.size) := by rw [hw2]; show (w1.setCell _ _).heap.size = _; simp [World.setCell]; exact HS1.out
  have HG2 : Hid (w.grownBy w2 (some S)) := by
    rw [hw2]
    have g1 := HG1.out
    exact ⟨g1.os, g1.tape, g1.output, by simp [World.setCell]; rw [HS1.out]; exact Nat.le_refl _, fun k hk hne => (Below.heap_setCell _ _ _ _ (fun e => hne (by rw [e]))).trans (g1.block k hk hne)⟩
  rw [← hw2]
  clear hw2 c8 f8 hm1 HS1 HB1 HG1
  have hr0 := range0 (w := w2) (m := m) hm2.out
  have hn0 : ∀ ty, (Instr.next (.pointer (some ⟨w2.heap.size, 0, none⟩)) false ty).run Yba.prog (w2.alloc (.mapIter (some m) 0 #[] 0)) = _ := fun ty => next0 (m := m) (heap_alloc_new w2 _) (by rw [Below.heap_alloc _ _ _ (by rw [HS2.out]; exact hmlt.out)]; exact hm2.out) ty
  refine wpN_seq_k fun K hK => ?_
  go_wp2_with fail
  refine wp_loop_rounds 1 ?_
  rw [rounds_succ]
  go_wp2_with fail
  clear hr0 hn0
  obtain ⟨w3, hw3⟩ : ∃ w3, w3 = w2.alloc (.mapIter (some m) 0 #[] 0) := ⟨_, rfl⟩
  have HB3 : Hid (w3.heap[S]? = some (.cells (stC 1 (-1073741824) g2 mb v) 41 (0, 0))) := by rw [hw3]; exact (Below.heap_alloc _ _ _ (by rw [HS2.out]; exact hSlt.out)).trans HB2.out
  have c10 : w3.cell? ⟨S, 10, none⟩ = some (.slice ao cs.length cap) := by rw [st_cell HB3.out 10, ← HV.out]; rfl
  have HG3 : Hid (w.grownBy w3 (some S)) := by
    rw [hw3]
    have g2 := HG2.out
    exact ⟨g2.os, g2.tape, g2.output, by simp; rw [HS2.out]; omega, fun k hk hne => (Below.heap_alloc _ _ _ (by rw [HS2.out]; exact hk)).trans (g2.block k hk hne)⟩
  rw [← hw3]
  clear hw3 HG2 HB2 hm2
  obtain ⟨it, hit⟩ : ∃ it, it = w2.heap.size := ⟨_, rfl⟩
  rw [← hit]
  clear hit HS2
  refine wpN_seq_k fun K hK => ?_
  go_wp2
  have HSc : Hid (S ∉ cs) := fun hin => by
    obtain ⟨buf, s, r, hb, _⟩ := HALL.out S hin
    rw [HH.out.blk] at hb
    cases hb
  have HT0 : Hid (Tells w3 w3 cs 0) := by
    refine ⟨fun c hc => ?_, fun i hi h0 => by omega, rfl, rfl, rfl, rfl, fun _ _ => rfl⟩
    obtain ⟨buf, s, r, hb, hs⟩ := HALL.out c hc
    exact ⟨buf, s, r, (HG3.out.block c (Array.getElem?_eq_some_iff.1 hb).1 (fun e => by cases e; exact HSc.out hc)).trans hb, hs⟩
  have HSv : Hid (some S ≠ v.ownBlock) := row_ne HH.out.row HH.out.blk (fun c hc => by cases hc)
  have HR3 : Hid (w3.ownsRow base 42 1 (.slice ao cs.length cap) cs.length (cs.map cv)) := by
    rw [← HV.out]
    exact HH.out.row.kept HG3.out (.inr (fun e => HSv.out e.symm))
  have hbd := bd
  clear c10
  refine wpN_block ?_
  refine wpN_loop (fun a wr => ∃ (j : Nat) (u11 u86 u87 u88 u89 u90 u91 u92 u93 u94 : Value), j ≤ cs.length ∧ Tells w3 wr cs j ∧ a = actAt S m it cs.length cap g2 ao j u11 u86 u87 u88 u89 u90 u91 u92 u93 u94) (fun a _ => cs.length - (intOf (a.tmps.getD 85 undef)).toNat) ?_ ?_
  · exact ⟨0, undef, undef, undef, undef, undef, undef, undef, undef, undef, undef, Nat.zero_le _, HT0.out, rfl⟩
  · rintro a wr ⟨j, u11, u86, u87, u88, u89, u90, u91, u92, u93, u94, hj, htell0, rfl⟩
    have htell : Hid (Tells w3 wr cs j) := htell0
    clear htell0
    simp only [actAt]
    by_cases hjn : j < cs.length
    · obtain ⟨gv, rfl, hgc⟩ : ∃ gv, ao = some ⟨gv, 0, none⟩ ∧ wr.cell? ⟨gv, j, none⟩ = some (.chan (some cs[j])) := by
        rcases HR3.out.2 with ⟨_, h0⟩ | ⟨g, cap', cur, hv, _, hgg, _⟩
        · omega
        · cases hv
          refine ⟨g, rfl, ?_⟩
          have h1 := HR3.out.cells rfl j (cv cs[j]) (by simp [hjn])
          rw [Addr.add_lit, Nat.zero_add] at h1
          have hgn : g ∉ cs := fun hin => by
            obtain ⟨buf, s, r, hb, _⟩ := HT0.out.all g hin
            rw [hgg] at hb
            cases hb
          exact (World.cell?_of_block (w := w3) (htell.out.block g hgn)).trans h1
      obtain ⟨buf, s, r, hcb, hbs⟩ := htell.out.all cs[j] (List.getElem_mem hjn)
      have hsent : Hid (buf.size = 0 → Tells w3 (wr.setChan cs[j] 1 #[.agg #[]] false (s + 1) r false) cs (j + 1)) := fun h0 => by
        have e : buf = #[] := Array.eq_empty_of_size_eq_zero h0
        subst e
        exact htell.out.sent hjn hcb
      have hkept : Hid (buf.size = 1 → Tells w3 wr cs (j + 1)) := fun h1 => htell.out.kept hjn hcb h1
      obtain ⟨c, hc⟩ : ∃ c, c = cs[j] := ⟨_, rfl⟩
      rw [← hc] at hgc hcb hsent
      clear hc
      refine wpN_seq_k fun K hK => ?_
      go_wp2
      refine wpN_seq_k fun K hK => ?_
      go_wp2
      refine wpN_seq_n fun K hK => ?_
      refine wpN_block ?_
      refine wpN_seq_k fun K hK => ?_
      go_wp2
      refine wpN_seq_k fun K hK => ?_
      go_wp2
      refine wpN_seq_n fun K hK => ?_
      have hcase : buf.size = 0 ∨ buf.size = 1 := by omega
      rcases hcase with h0 | h1
      · have hT := hsent.out h0
        have e : buf = #[] := Array.eq_empty_of_size_eq_zero h0
        subst e
        refine wpN_region_send_room (c := c) (cap := 1) (buf := #[]) (s := s) (r := r) (x := .agg #[]) (z := .agg #[]) (tm := false) rfl (by simp [go_sem, execOp, Conc.scase, Act.eval]) hcb (by simp) ?_
        go_wp2
        refine wpN_of_wp ?_
        go_wp2
        refine wpN_of_wp ?_
        go_wp2
        exact ⟨⟨j + 1, _, _, _, _, _, _, _, _, _, _, by omega, hT, rfl⟩, by simp [intOf]; omega⟩
      · have hT := hkept.out h1
        refine wpN_region_send_full (c := c) (cap := 1) (buf := buf) (s := s) (r := r) (x := .agg #[]) (z := .agg #[]) (tm := false) rfl (by simp [go_sem, execOp, Conc.scase, Act.eval]) hcb (by omega) ?_
        go_wp2
        refine wpN_of_wp ?_
        go_wp2
        refine wpN_of_wp ?_
        go_wp2
        exact ⟨⟨j + 1, _, _, _, _, _, _, _, _, _, _, by omega, hT, rfl⟩, by simp [intOf]; omega⟩
    · refine wpN_seq_k fun K hK => ?_
      go_wp2
      refine wpN_seq_k fun K hK => ?_
      go_wp2
      have hSb : wr.heap[S]? = some (.cells (stC 1 (-1073741824) g2 mb v) 41 (0, 0)) := (htell.out.block S HSc.out).trans HB3.out
      refine leaves_cons (f := 14) (args := #[.pointer (some ⟨S, 2, none⟩)]) (by simp) (by simp [go_sem]) ?_
      refine (unlock_st_d .returning hSb).mono ?_
      rintro e u' w4 ⟨rfl, rfl, hb4, hg4, hs4⟩
      have hchan : ∀ c ∈ cs, w4.heap[c]? = wr.heap[c]? := fun c hc => by
        obtain ⟨buf, s, r, hcb, _⟩ := htell.out.all c hc
        exact hg4.block c (Array.getElem?_eq_some_iff.1 hcb).1 (fun e => by cases e; exact HSc.out hc)
      have hvn : ∀ g, v.ownBlock = some g → g ∉ cs := fun g hg hin => by
        obtain ⟨buf, s, r, hcb, _⟩ := HALL.out g hin
        exact row_ne HH.out.row hcb (fun c hc => by cases hc) hg.symm
      have hblk : ∀ k, k < w.heap.size → k ≠ S → k ∉ cs → w4.heap[k]? = w.heap[k]? := fun k hk h1 h2 => by
        have h3 := HG3.out.block k hk (by simpa using h1)
        have hk3 : k < w3.heap.size := Nat.lt_of_lt_of_le hk HG3.out.size
        rw [hg4.block k (by rw [htell.out.size]; exact hk3) (by simpa using h1), htell.out.block k h2, h3]
      refine ⟨_, results_none rfl _ _ _, rfl, ⟨hb4, ?_, HH.out.hS⟩, ?_, ?_, ?_, ?_, ?_, hblk⟩
      · refine ⟨HH.out.row.1, ?_⟩
        rcases HH.out.row.2 with h0 | ⟨g, cap', cur, hv, hbg, hgg, hr⟩
        · exact .inl h0
        · refine .inr ⟨g, cap', cur, hv, hbg, ?_, hr⟩
          rw [hblk g (Array.getElem?_eq_some_iff.1 hgg).1 (fun e => HSv.out (by rw [hv, ← e]; rfl)) (hvn g (by rw [hv]; rfl))]
          exact hgg
      · intro c hc
        obtain ⟨i, hi, rfl⟩ := List.getElem_of_mem hc
        obtain ⟨buf, s, r, hcb, hbs⟩ := htell.out.done i hi (by omega)
        exact ⟨buf, s, r, (hchan _ hc).trans hcb, hbs⟩
      · exact hg4.os.trans (htell.out.os.trans HG3.out.os)
      · exact hg4.tape.trans (htell.out.tape.trans HG3.out.tape)
      · exact hg4.output.trans (htell.out.output.trans HG3.out.output)
      · have := HG3.out.size
        have := htell.out.size
        omega
end Go.Proofs.Ybulkdfpm.Watch
