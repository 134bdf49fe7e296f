/-
  A select of one send with a default, in one goroutine, inside the kit's walk. 'Code.wp' asks of every frame; a communication cannot be run in a frame of kind 'early'; so here a word 'wpN' that asks of frames of an ordinary call alone, its few rules, and the select's two laws.
-/
import Derived.WalkKit
import Derived.Conc.LoneSelect
import Derived.Defers
namespace Go.Proofs.Ybulkdfpm.Sel
open Go.Conc

/-- From this machine the code c, begun in the frame b, comes to an end of which Q holds. -/
def Ends (P : Program) (Q : Exit → Act → World → Prop) (m : Machine) (b : Frame) (k : List Item) (cs : List Frame) : Prop := ∃ e a w, Q e a w ∧ Arrives P m b k cs e a w

/-- The walk's question, put to frames of kind 'normal' alone. -/
def wpN (P : Program) (c : Code) (Q : Exit → Act → World → Prop) (a : Act) (w : World) : Prop :=
  ∀ (b : Frame) (k : List Item) (cs : List Frame), b.kind = .normal → Ends P Q (lone (b.at a (.code c :: k)) cs w) b k cs

section
variable {P : Program} {Q : Exit → Act → World → Prop} {a : Act} {w : World}

theorem Ends.after {m m1 : Machine} {b : Frame} {k : List Item} {cs : List Frame} (h : Steps P m m1) (h1 : Ends P Q m1 b k cs) : Ends P Q m b k cs :=
  let ⟨e, a, w, q, r⟩ := h1; ⟨e, a, w, q, .of_steps h r⟩

/-- One item of the frame is passed: behind it stands 'next' where the code ended plainly; any other end goes through. -/
theorem Ends.through {m : Machine} {b : Frame} {x : Item} {k : List Item} {cs : List Frame} {next : Act → World → Prop} (hx : x.plain = true) (h : Ends P (Exit.then next Q) m b (x :: k) cs)
    (hn : ∀ a w, next a w → Steps P m (lone (b.at a (x :: k)) cs w) → Ends P Q m b k cs) : Ends P Q m b k cs := by
  obtain ⟨e, a1, w1, q, r⟩ := h
  cases e
  case normal => exact hn a1 w1 q r
  all_goals exact ⟨_, a1, w1, q, .pass (x := x) hx (fun _ _ => .inl (by simp)) r⟩

theorem wpN_of_wp {c : Code} (h : c.wp P Q a w) : wpN P c Q a w := fun b k cs _ => h b k cs

theorem wpN_seq_n {x y : Code} (h : ∀ K : Act → World → Prop, (∀ a w, wpN P y Q a w → K a w) → wpN P x (Exit.then K Q) a w) : wpN P (Code.seq x y) Q a w :=
  fun b k cs hb => .after (.one step_seq) (.through rfl (h _ (fun _ _ h => h) b (.code y :: k) cs hb) fun _ _ hy hs => .after hs (hy b k cs hb))

/-- The first of two walked by the kit; what follows stands behind a name. -/
theorem wpN_seq_k {x y : Code} (h : ∀ K : Act → World → Prop, (∀ a w, wpN P y Q a w → K a w) → x.wp P (Exit.then K Q) a w) : wpN P (Code.seq x y) Q a w :=
  wpN_seq_n fun K hK => wpN_of_wp (h K hK)

theorem wpN_block {id : Nat} {c : Code} (h : wpN P c (Exit.inBlock id Q) a w) : wpN P (Code.block id c) Q a w := by
  intro b k cs hb
  refine .after (.one step_block) ?_
  obtain ⟨e, a1, w1, q, r⟩ := h b (.inBlock id :: k) cs hb
  cases e
  case normal => exact ⟨.normal, a1, w1, q, Steps.trans r (.one step_inBlock)⟩
  case exit i =>
    by_cases hid : i = id
    · subst hid
      exact ⟨.normal, a1, w1, by simpa [Exit.inBlock] using q, r k (by simp [exitTo])⟩
    · exact ⟨.exit i, a1, w1, by simpa [Exit.inBlock, hid] using q, fun k' hk => r k' (by simpa [exitTo, beq_eq_false_iff_ne.2 (Ne.symm hid)] using hk)⟩
  case goto l => exact ⟨_, a1, w1, q, fun k' hk => r k' (by simpa [gotoIn] using hk)⟩
  all_goals exact ⟨_, a1, w1, q, r⟩

theorem wpN_loop {c : Code} (I : Act → World → Prop) (μ : Act → World → Nat) (h0 : I a w)
    (round : ∀ a w, I a w → wpN P c (Exit.then (fun a' w' => I a' w' ∧ μ a' w' < μ a w) Q) a w) : wpN P (Code.loop c) Q a w := by
  intro b k cs hb
  have rounds : ∀ (n : Nat) (a : Act) (w : World), μ a w < n → I a w → Ends P Q (lone (b.at a (.code c :: .inLoop c :: k)) cs w) b k cs := by
    intro n
    induction n with
    | zero => intro a w hn; omega
    | succ n ih => exact fun a w hn hI => .through rfl (round a w hI b (.inLoop c :: k) cs hb) fun a1 w1 h1 hs => .after (hs.trans (.one step_inLoop)) (ih a1 w1 (by omega) h1.1)
  exact .after (.one step_loop) (rounds _ a w (Nat.lt_succ_self _) h0)

/-- The step that is left of a region once its first operation has been taken by the machine. -/
theorem wpN_region_first {id : Nat} {o : Oper} {rest : List Oper} {v : Value} {w' : World}
    (hstep : ∀ (b : Frame) (k : List Item) (cs : List Frame) (l : List Nat), b.kind = .normal →
      step P (lone (b.at a (.inRegion (o :: rest).toArray (0 :: l) :: k)) cs w) = .next (lone ((b.at a (.inRegion (o :: rest).toArray (0 :: l) :: k)).finish v) cs w'))
    (h : wpList P (o :: rest).toArray Q rest (a.put o.dst v) w') : wpN P (Code.region id (o :: rest).toArray false) Q a w := by
  intro b k cs hb
  have hr : List.range (o :: rest).toArray.size = 0 :: List.range' 1 rest.length := by
    rw [List.range_eq_range']
    simp [List.range'_succ]
  have h1 := step_region (P := P) (b := b) (a := a) (k := k) (cs := cs) (w := w) (ops := (o :: rest).toArray) (id := id)
  rw [hr] at h1
  have h2 := hstep b k cs (List.range' 1 rest.length) hb
  rw [Frame.finish_at] at h2
  have hd : (((o :: rest).toArray[0]?).bind (·.dst)) = o.dst := by simp
  rw [hd] at h2
  have h3 := wpOps_eq_wpList (P := P) (ops := (o :: rest).toArray) (Q := Q) rest 1 (fun j => by simp [Nat.add_comm 1 j])
  rw [← h3] at h
  exact .after (.head h1 (.one h2)) (wp_ops (P := P) (ops := (o :: rest).toArray) (Q := Q) _ _ _ h b k cs)

/-- THE SEND HAS ROOM. -/
theorem wpN_region_send_room {id : Nat} {o : Oper} {rest : List Oper} {c cap s r : Nat} {buf : Array Value} {x z : Value} {tm : Bool} (hg : o.guard = none)
    (hr : (execOp a.eval o).run P w = .ok (.comm #[scase c x z] false .select) w) (hc : w.heap[c]? = some (.chan cap buf false s r tm)) (hroom : buf.size < cap)
    (h : wpList P (o :: rest).toArray Q rest (a.put o.dst (.tuple #[goInt 0, .bool false])) (w.setChan c cap (buf.push x) false (s + 1) r tm)) : wpN P (Code.region id (o :: rest).toArray false) Q a w :=
  wpN_region_first (fun b k cs l hb => step_lone_select_send_room (stepG_comm (by simp) (by simp [Region.wanted, hg]) (by rw [hb]; decide) hr) hc hroom) h

/-- THE SEND HAS NO ROOM: the default. -/
theorem wpN_region_send_full {id : Nat} {o : Oper} {rest : List Oper} {c cap s r : Nat} {buf : Array Value} {x z : Value} {tm : Bool} (hg : o.guard = none)
    (hr : (execOp a.eval o).run P w = .ok (.comm #[scase c x z] false .select) w) (hc : w.heap[c]? = some (.chan cap buf false s r tm)) (hfull : cap ≤ buf.size)
    (h : wpList P (o :: rest).toArray Q rest (a.put o.dst (.tuple #[goInt (-1), .bool false])) w) : wpN P (Code.region id (o :: rest).toArray false) Q a w :=
  wpN_region_first (fun b k cs l hb => step_lone_select_send_full (stepG_comm (by simp) (by simp [Region.wanted, hg]) (by rw [hb]; decide) hr) hc hfull) h

/-- The call, from the body of a function that may have deferred calls at its end. -/
theorem calls_of_wpN_defers {f : FuncId} {fn : Func} {c : Code} {args : Array Value} {R : Ending → World → Prop}
    (hf : P.funcs[f]? = some fn) (hb : fn.body = some c)
    (h : wpN P c (bodyPostD P fn R) { tmps := args ++ Array.replicate (fn.ntmps - args.size) undef, defers := [] } w) : Calls P f args w R := by
  intro cs
  obtain ⟨b, hbd⟩ : ∃ b : Frame, b = { (default : Frame) with fn := f, kind := .normal } := ⟨_, rfl⟩
  have hfn : b.fn = f := by rw [hbd]
  have hkd : b.kind = .normal := by rw [hbd]
  have henter : Frame.enter P f args .normal = b.at { tmps := args ++ Array.replicate (fn.ntmps - args.size) undef, defers := [] } [.code c] := by
    simp [Frame.enter, Frame.at, hf, hb, hbd]
  obtain ⟨e, a1, w1, hq, harr⟩ := h b [] cs hkd
  rw [← henter] at harr
  have out : ∀ (u : FrameMode) (todo : List Item), Leaves P fn a1.tmps R a1.defers u w1 → Steps P (lone (Frame.enter P f args .normal) cs w) (lone { b.at a1 todo with mode := u } cs w1) →
      ∃ e w' fr, R e w' ∧ Comes P (lone (Frame.enter P f args .normal) cs w) (lone fr cs w') e ∧ fr.fn = f ∧ fr.leaving P w' e := fun u todo hl hs => by
    obtain ⟨e', w'', fr', hR, hs', hfn', hl'⟩ := leaves_steps a1.defers u w1 { b.at a1 todo with mode := u } cs rfl rfl rfl (by simpa [Frame.at, hfn] using hf) hkd hl
    exact ⟨e', w'', fr', hR, Comes.of_steps hs hs', by rw [hfn']; exact hfn, hl'⟩
  cases e
  case normal => exact out .returning [] hq (Steps.trans harr (.one step_end))
  case ret => obtain ⟨todo, hs⟩ := harr; exact out .returning todo hq hs
  case panic chain => obtain ⟨todo, hs⟩ := harr; exact out (.panicking chain) todo hq hs
  case outgrown => exact ⟨.outgrown, w1, b, hq, harr.resolve_left (by rw [hkd]; decide), hfn, trivial⟩
  all_goals exact hq.elim
end
end Go.Proofs.Ybulkdfpm.Sel
