/-
  The walk of LawS5342BTold.
-/
import Derived.Test.YbulkdfpmApply
import Derived.Test.YbulkdfpmAppends
import Derived.Deep.DeepCutAuto
namespace Go.Proofs.Ybulkdfpm.Watch
open Go.RowKit

/-- The store and the row of watched channels. -/
structure Wd (w wr : World) (q G n : Nat) (gen : Int) (v : Value) (gs : List Nat) : Prop where
  sto : Sto wr w.heap.size (w.heap.size + 1) gen w.heap.size v gs
  glen : gs.length = q
  grow : wr.ownsRow w.heap.size 44 1 (.slice (some ⟨G, 0, none⟩) q n) q (gs.map cv)
  cge : ∀ c ∈ gs, w.heap.size ≤ c
  bel : Below w.heap.size w wr

/-- Every channel of gs is open, of capacity one, with t signals in it. -/
def Hold (wr : World) (gs : List Nat) (t : Nat) : Prop := ∀ c ∈ gs, ∃ buf s r, wr.heap[c]? = some (.chan 1 buf false s r false) ∧ buf.size = t

theorem Hold.st {wr : World} {gs : List Nat} {t : Nat} (h : Hold wr gs t) (ht : t ≤ 1) : ∀ c ∈ gs, ChSt wr c := fun c hc => by
  obtain ⟨buf, s, r, hb, hs⟩ := h c hc
  exact ⟨buf, s, r, hb, by omega⟩

/-- Behind a call of Watch. -/
structure Wg (w w2 : World) (q G n c : Nat) (gen : Int) (v' : Value) (gs : List Nat) : Prop where
  sto : Sto w2 w.heap.size (w.heap.size + 1) gen w.heap.size v' (gs ++ [c])
  grow : w2.ownsRow w.heap.size 44 1 (.slice (some ⟨G, 0, none⟩) q n) q (gs.map cv)
  cge : ∀ d ∈ gs ++ [c], w.heap.size ≤ d
  chn : w2.heap[c]? = some (.chan 1 #[] false 0 0 false)
  bel : Below w.heap.size w w2

theorem Wd.watch {w wr : World} {q G n t : Nat} {gen : Int} {v : Value} {gs : List Nat} (h : Wd w wr q G n gen v gs) (ht : Hold wr gs t) (hq : q ≤ 1024) :
    Calls Yba.prog 7 #[.pointer (some ⟨w.heap.size + 1, 0, none⟩)] wr fun e w2 => e = .returned (.chan (some wr.heap.size)) ∧ ∃ v', Wg w w2 q G n wr.heap.size gen v' gs ∧ Hold w2 gs t := by
  refine (watch_any h.sto (by rw [h.glen]; omega) h.bel.size).mono ?_
  rintro e w2 ⟨rfl, v', hsto, hch, has, hlt⟩
  refine ⟨rfl, v', ⟨hsto, ?_, ?_, hch, ?_⟩, ?_⟩
  · have hGS : some (w.heap.size + 1) ≠ (Value.slice (some ⟨G, 0, none⟩) q n).ownBlock := row_ne h.grow h.sto.blk (fun c hc => by cases hc)
    have hGv := own_ne h.sto.row h.grow (by decide) (g := G) rfl
    rcases h.grow.2 with ⟨hv, _⟩ | ⟨g', cap', cur', hv, hbg, hgg, hr⟩
    · cases hv
    · cases hv
      refine ⟨h.grow.1, .inr ⟨G, n, cur', rfl, hbg, ?_, hr⟩⟩
      rw [has.block G (Array.getElem?_eq_some_iff.1 hgg).1 (fun e => hGS (by rw [← e]; rfl)) (fun e => hGv e.symm)]
      exact hgg
  · intro d hd
    rcases List.mem_append.1 hd with h1 | h1
    · exact h.cge d h1
    · have e : d = wr.heap.size := by simpa using h1
      rw [e]
      exact h.bel.size
  · exact h.bel.trans ⟨has.os, has.tape, has.output, has.size, fun b hb => has.block b (by have := h.bel.size; omega) (by omega) (fun e => by have := (h.sto.row.lt b e.symm).1; omega)⟩
  · intro c hc
    obtain ⟨buf, s, r, hb, hs⟩ := ht c hc
    refine ⟨buf, s, r, ?_, hs⟩
    rw [has.block c (Array.getElem?_eq_some_iff.1 hb).1 (fun e => by rw [e, h.sto.blk] at hb; cases hb) (row_ne h.sto.row hb (fun c hc => by cases hc))]
    exact hb

theorem Wg.next {w w2 w3 : World} {q G n c : Nat} {gen : Int} {v' : Value} {gs : List Nat} {x : Value} (h : Wg w w2 q G n c gen v' gs) (ht : Hold w2 gs 0) (hg : gs.length = q)
    (hown : w3.ownsRow w.heap.size 44 1 (.slice (some ⟨G, 0, none⟩) (q + 1) n) (q + 1) (gs.map cv ++ [.chan (some c)])) (hg3 : (w2.alloc (.cells #[x] 44)).grownBy w3 (some G)) : Wd w w3 (q + 1) G n gen v' (gs ++ [c]) ∧ Hold w3 (gs ++ [c]) 0 := by
  have hltS : w.heap.size + 1 < w2.heap.size := (Array.getElem?_eq_some_iff.1 h.sto.blk).1
  have hGS : some (w.heap.size + 1) ≠ some G := row_ne h.grow h.sto.blk (fun c hc => by cases hc)
  have hGv := own_ne h.sto.row h.grow (by decide) (g := G) rfl
  have hkeep : ∀ (b : Nat) (o : Obj), w2.heap[b]? = some o → (∀ c, o ≠ .cells c 44 (0, 0)) → w3.heap[b]? = some o := fun (b : Nat) (o : Obj) hb ho => by
    have hlt := (Array.getElem?_eq_some_iff.1 hb).1
    have hne : some b ≠ some G := row_ne h.grow hb ho
    rw [hg3.block b (by simp; omega) hne, Below.heap_alloc _ _ _ hlt]
    exact hb
  refine ⟨⟨⟨hkeep _ _ h.sto.blk (fun c hc => by cases hc), ?_, h.sto.hS⟩, by simp [hg], by simpa [cv] using hown, h.cge, ?_⟩, ?_⟩
  · have h1 := (h.sto.row.alloc (.cells #[x] 44)).kept hg3 (.inr hGv)
    simpa using h1
  · exact (h.bel.alloc h.bel.size _).grown hg3 (by have := h.bel.size; simp; omega) (fun b hb => by cases hb; exact (h.grow.lt G rfl).1)
  · intro d hd
    rcases List.mem_append.1 hd with h1 | h1
    · obtain ⟨buf, s, r, hb, hs⟩ := ht d h1
      exact ⟨buf, s, r, hkeep _ _ hb (fun c hc => by cases hc), hs⟩
    · have e : d = c := by simpa using h1
      subst e
      exact ⟨_, _, _, hkeep _ _ h.chn (fun c hc => by cases hc), rfl⟩

theorem Wd.told {w wr : World} {q G n t : Nat} {gen g2 : Int} {v : Value} {gs : List Nat} (h : Wd w wr q G n gen v gs) (ht : Hold wr gs t) (ht1 : t ≤ 1) (hq : q ≤ 1024) :
    Calls Yba.prog 8 #[.pointer (some ⟨w.heap.size + 1, 0, none⟩), .int .i64 g2, .map (some wr.heap.size)] (wr.alloc (.map #[] 0)) fun e w2 => e = .returned (.tuple #[]) ∧ Wd w w2 q G n g2 v gs ∧ Hold w2 gs 1 := by
  have hold : ∀ b o, wr.heap[b]? = some o → (wr.alloc (.map #[] 0)).heap[b]? = some o := fun b o hb => (Below.heap_alloc wr _ b (Array.getElem?_eq_some_iff.1 hb).1).trans hb
  have hsto : Sto (wr.alloc (.map #[] 0)) w.heap.size (w.heap.size + 1) gen w.heap.size v gs := ⟨hold _ _ h.sto.blk, h.sto.row.alloc _, h.sto.hS⟩
  have hst : ∀ c ∈ gs, ChSt (wr.alloc (.map #[] 0)) c := fun c hc => by
    obtain ⟨buf, s, r, hb, hs⟩ := ht.st ht1 c hc
    exact ⟨buf, s, r, hold _ _ hb, hs⟩
  refine (apply_any hsto (heap_alloc_new wr _) hst (by rw [h.glen]; omega)).mono ?_
  rintro e w2 ⟨rfl, h1, h2, h3, h4, h5, h6, h7⟩
  have hsz : wr.heap.size + 1 ≤ w2.heap.size := by simpa using h6
  have hb7 : ∀ k, k < wr.heap.size → k ≠ w.heap.size + 1 → k ∉ gs → w2.heap[k]? = wr.heap[k]? := fun k hk a b => (h7 k (by simp; omega) a b).trans (Below.heap_alloc wr _ k hk)
  have hcl : ∀ c ∈ gs, ∃ buf s r, wr.heap[c]? = some (.chan 1 buf false s r false) := fun c hc => by
    obtain ⟨buf, s, r, hb, _⟩ := ht c hc
    exact ⟨buf, s, r, hb⟩
  refine ⟨rfl, ⟨h1, h.glen, ?_, h.cge, ?_⟩, fun c hc => h2 c hc⟩
  · rcases h.grow.2 with ⟨hv, _⟩ | ⟨g', cap', cur', hv, hbg, hgg, hr⟩
    · cases hv
    · cases hv
      refine ⟨h.grow.1, .inr ⟨G, n, cur', rfl, hbg, ?_, hr⟩⟩
      rw [hb7 G (Array.getElem?_eq_some_iff.1 hgg).1 (fun e => by rw [e, h.sto.blk] at hgg; cases hgg) (fun hin => by obtain ⟨buf, s, r, hb⟩ := hcl G hin; rw [hgg] at hb; cases hb)]
      exact hgg
  · refine h.bel.trans ⟨h3, h4, h5, by omega, fun b hb => hb7 b (by have := h.bel.size; omega) (by omega) (fun hin => by have := h.cge b hin; omega)⟩

theorem start_wd {w w1 : World} {n : Nat} (hown : w1.ownsRow w.heap.size 44 1 (.slice (some ⟨w.heap.size + 1 + 1, 0, none⟩) 0 n) 0 [])
    (hg : ((w.alloc (.map #[] 0)).alloc (.cells (stC 0 0 0 w.heap.size (.slice none 0 0)) 41)).grownBy w1 none) : Wd w w1 0 (w.heap.size + 1 + 1) n 0 (.slice none 0 0) [] := by
  refine ⟨⟨?_, World.ownsRow_nil _ _ _ _, by omega⟩, rfl, hown, fun c hc => by simp at hc, (((Below.refl _ _).alloc (Nat.le_refl _) _).alloc (by simp) _).grown hg (by simp; omega) (fun k h => by cases h)⟩
  rw [hg.block _ (by simp) (by simp)]
  have hnew := heap_alloc_new (w.alloc (.map #[] 0)) (.cells (stC 0 0 0 w.heap.size (.slice none 0 0)) 41)
  have e : (w.alloc (.map #[] 0)).heap.size = w.heap.size + 1 := by simp
  rw [e] at hnew
  exact hnew

set_option maxRecDepth 1000000 in
set_option maxHeartbeats 1000000 in
theorem told_any (a0 a1 gen : Int) (w : World) (h00 : 0 ≤ a0) (h01 : a0 ≤ 255) (h10 : 0 ≤ a1) (h11 : a1 ≤ 255) :
    Calls Yba.prog 4 #[.int .u8 a0, .int .u8 a1, .int .i64 gen] w fun e w' => e = .returned (.bool true) ∧ Below w.heap.size w w' := by
  have hmm := @run_makeMap Yba.prog
  obtain ⟨i44, ji, jz0, jz1, jz2⟩ := info_parts info44
  obtain ⟨n, hn⟩ : ∃ n : Nat, a0 % 40 = (n : Int) := ⟨(a0 % 40).toNat, by omega⟩
  have hn40 : n < 40 := by omega
  obtain ⟨k, hk⟩ : ∃ k : Nat, a1 % 4 = (k : Int) := ⟨(a1 % 4).toNat, by omega⟩
  have hk4 : k < 4 := by omega
  go_enter Yba.func4, Yba.ntmps4
  go_wp2_with (at_make; refine wpList_make_own _ rfl _ _ 43 rfl w.heap.size 44 i44 (.chan none) 1 Yba.underlying43 ji jz0 jz1 _ _ _ n rfl rfl (by omega) ?b2 ?b3 ?b4 ?_)
  case b2 => rw [jz2]; omega
  case b3 => unfold maxLen; omega
  case b4 => simp; omega
  intro w1 hown1 hg1
  have hwd0 : Hid (Wd w w1 0 (w.heap.size + 1 + 1) n 0 (.slice none 0 0) []) := start_wd hown1 hg1
  clear hown1 hg1
  obtain ⟨G, hG⟩ : ∃ G, G = w.heap.size + 1 + 1 := ⟨_, rfl⟩
  have hwd : Hid (Wd w w1 0 G n 0 (.slice none 0 0) []) := by rw [hG]; exact hwd0
  rw [← hG]
  clear hG hwd0
  go_wp2
  go_loopw [10, 11] (fun gv t wr => ∃ (q : Nat) (vv : Value) (gs : List Nat), q ≤ n ∧ t = .int .i64 q ∧ gv = .slice (some ⟨G, 0, none⟩) q n ∧ Hid (Wd w wr q G n 0 vv gs) ∧ Hid (Hold wr gs 0)) (fun _ t _ => n - (intOf t).toNat)
  case atStart => exact ⟨0, _, [], Nat.zero_le _, rfl, rfl, hwd, fun c hc => by simp at hc⟩
  case round =>
    clear hwd
    obtain ⟨q, vv, gs, hq, rfl, rfl, hwd, hhold⟩ := hrel
    by_cases hqn : q < n
    · go_wp2_with fail
      refine (hwd.out.watch hhold.out (by omega)).mono ?_
      rintro e w2 ⟨rfl, v', hwg, hh2⟩
      obtain ⟨c, hc⟩ : ∃ c, c = wr.heap.size := ⟨_, rfl⟩
      rw [← hc] at hwg ⊢
      have hgl : Hid (gs.length = q) := hwd.out.glen
      have HW : Hid (Wg w w2 q G n c 0 v' gs) := hwg
      have HH2 : Hid (Hold w2 gs 0) := hh2
      have hgrow := hwg.grow
      clear hc hwd hhold hwg hh2
      go_wp2_with (at_builtin; refine wpList_append_fits _ rfl (.tmp 32) (.tmp 35) 43 rfl w.heap.size 44 i44 1 Yba.underlying43 ji jz1 G q n _ rfl (hgrow.alloc _) ⟨w2.heap.size, 0, none⟩ 1 1 [.chan (some c)] rfl rfl ?f1 ?f2 (by omega) ?_)
      case f1 => exact cell_one_new _ _ _
      case f2 => intro u hu; simp at hu; subst hu; rfl
      intro w3 hrow3 hg3
      obtain ⟨hnew, hnh⟩ := HW.out.next HH2.out hgl.out hrow3 hg3
      have HN : Hid (Wd w w3 (q + 1) G n 0 v' (gs ++ [c])) := hnew
      have HNH : Hid (Hold w3 (gs ++ [c]) 0) := hnh
      clear hrow3 hg3 hnew hnh
      go_wp2
      go_roundw
      case rel => first | exact ⟨q + 1, _, _, by omega, by go_num, rfl, HN, HNH⟩ | ((repeat apply Exists.intro); exact ⟨⟨q + 1, _, _, by omega, by go_num, rfl, HN, HNH⟩, rfl⟩)
      case measure => simp [intOf]; omega
    · obtain rfl : q = n := by omega
      obtain ⟨wo, hwo⟩ : ∃ wo : World, wo = wr := ⟨_, rfl⟩
      subst hwo
      go_wp2
      go_loopw [12] (fun t wr => ∃ (i tt : Nat) (g : Int), i ≤ k ∧ t = .int .i64 i ∧ tt ≤ 1 ∧ Hid ((i = 0 → tt = 0 ∧ g = 0) ∧ (0 < i → tt = 1 ∧ g = gen)) ∧ Hid (Wd w wr q G q g vv gs) ∧ Hid (Hold wr gs tt)) (fun t _ => k - (intOf t).toNat)
      case atStart => exact ⟨0, 0, 0, Nat.zero_le _, rfl, by omega, ⟨fun _ => ⟨rfl, rfl⟩, fun h => by omega⟩, hwd, hhold⟩
      case round =>
        clear hwd hhold
        obtain ⟨i, tt, g, hi, rfl, htt, hcs, hwd, hhold⟩ := hrel
        by_cases hik : i < k
        · go_wp2_with (go_at_call 8; refine (hwd.out.told hhold.out htt (by omega)).mono ?_; rintro e w2 ⟨rfl, hw2, hh2⟩)
          go_roundw
          case rel => first | exact ⟨i + 1, 1, gen, by omega, by go_num, by omega, ⟨fun h => by omega, fun _ => ⟨rfl, rfl⟩⟩, hw2, hh2⟩ | ((repeat apply Exists.intro); exact ⟨⟨i + 1, 1, gen, by omega, by go_num, by omega, ⟨fun h => by omega, fun _ => ⟨rfl, rfl⟩⟩, hw2, hh2⟩, rfl⟩)
          case measure => simp [intOf]; omega
        · obtain rfl : i = k := by omega
          have c8 : wr.cell? ⟨w.heap.size + 1, 8, none⟩ = some (.int .i64 g) := by rw [st_cell hwd.out.sto.blk 8]; rfl
          obtain ⟨wp, hwp⟩ : ∃ wp : World, wp = wr := ⟨_, rfl⟩
          subst hwp
          go_upto_if 47 with (fail)
          go_cut [13] (fun v w' => v = .int .i64 tt ∧ wp = w')
          case first =>
            rcases Nat.eq_zero_or_pos i with rfl | hpos
            · obtain ⟨rfl, rfl⟩ := hcs.out.1 rfl
              go_wp2
              go_meet
              case rel => exact ⟨rfl, rfl⟩
            · obtain ⟨rfl, rfl⟩ := hcs.out.2 hpos
              go_wp2
              go_meet
              case rel => exact ⟨rfl, rfl⟩
          case rest =>
          obtain ⟨rfl, rfl⟩ := hcut
          clear hcs c8
          go_wp2
          go_loop [14] (fun t => ∃ j : Nat, j ≤ q ∧ t = .int .i64 j) (fun t => q - (intOf t).toNat)
          case atStart => exact ⟨0, Nat.zero_le _, rfl⟩
          case round =>
            obtain ⟨j, hj, rfl⟩ := hrel
            by_cases hjq : j < q
            · have hjl : Hid (j < gs.length) := by have := hwd.out.glen; show _ < _; omega
              have hcj : wp.cell? ⟨G, j, none⟩ = some (.chan (some (gs[j]'hjl.out))) := by
                have h1 := hwd.out.grow.cells rfl j (cv (gs[j]'hjl.out)) (by simp [hjl.out])
                rw [Addr.add_lit, Nat.zero_add] at h1
                exact h1
              have hlen : ∀ ty, (Builtin.len_ #[44] ty #[.chan (some (gs[j]'hjl.out))]).run Yba.prog wp = .ok (.int .i64 (tt : Int)) wp := fun ty => by
                obtain ⟨buf, s, r, hb, hs⟩ := hhold.out _ (List.getElem_mem hjl.out)
                rw [Conc.run_len_chan (P := Yba.prog) 44 ty Yba.underlying44 hb, hs]
                rfl
              obtain ⟨cj, hcj2⟩ : ∃ cj, cj = gs[j]'hjl.out := ⟨_, rfl⟩
              rw [← hcj2] at hcj hlen
              clear hcj2
              go_wp2
              go_round
              case rel => exact ⟨j + 1, by omega, by go_num⟩
              case measure => simp [intOf]; omega
            · go_wp2_with fail
              refine (hwd.out.watch hhold.out (by omega)).mono ?_
              rintro e w2 ⟨rfl, v', hwg, hh2⟩
              have hgl := hwd.out.glen
              have hl1 := fun ty => Conc.run_len_chan (P := Yba.prog) 44 ty Yba.underlying44 hwg.chn
              obtain ⟨ao, cap, hv⟩ := own_shape hwg.sto.row
              have c10 : w2.cell? ⟨w.heap.size + 1, 10, none⟩ = some (.slice ao (q + 1) cap) := by
                rw [st_cell hwg.sto.blk 10, hv, List.length_append, hgl]; rfl
              have hbel : Hid (Below w.heap.size w w2) := hwg.bel
              clear hwg hh2 hv hgl hhold hwd
              go_wp2
              go_ret
              exact ⟨rfl, hbel.out⟩
end Go.Proofs.Ybulkdfpm.Watch
