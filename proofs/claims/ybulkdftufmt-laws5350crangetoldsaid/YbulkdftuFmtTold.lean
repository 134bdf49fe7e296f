/-
  DERIVED. The told and tied card of LawS5350CRange: the start that is shown to be there (the settled world with the three listed tables laid), the call's outcome, and the card by the builder's one call (after the worked toy port).
-/
import Derived.Test.YbulkdftuFmtWalk
import Derived.Test.YbulkdftuFmtTie
import Derived.Test.YbulkdftuFmtCards
import Derived.ProofKit
import Derived.OpenShut
import Derived.ShutString
import Derived.Below
import Derived.Stop.JoinedAt
import Derived.Stop.JoinedTold
import Derived.Stop.LaidErr
import Derived.Lib.LaidTab
import Derived.Lib.LaidIn
import Derived.Deep.DeepWitnessRowRef
import Derived.Deep.DeepWitnessRef
import Derived.SevenTiedAt
namespace Go.Proofs.YbulkdftuFmt.lawS5350CRange
open Go.ChangeShapes Go.WideShapes Go.ChangeAt Go.RowKit Go.Kit
open Go.ChangeMaps (open_string shut_string)
open Go.Extern.Stop Go.Stop Go.Extern

theorem own : ownKnob Ybaf.prog.godebug = none := by kernel_rfl

/-- An array of integers as data: its cells. -/
def cellsBy : DataW Unit → Array Value
  | .agg l => (l.map fun d => match d with | .lit (.int k z) => Value.int k z | _ => Value.nilIface).toArray
  | _ => #[]

/-- The settled world with the three listed tables laid. -/
def laidFor (P : Program) (os : Os) : World :=
  let w0 := World.holding P os ⟨#[], #[], []⟩
  let put (h : Array Obj) (g : Nat) (cs : Array Value) : Array Obj := h.modify g fun
    | .cells _ t frozen => .cells cs t frozen
    | o => o
  { w0 with heap := put (put (put w0.heap 2 (cellsBy Rows.laid_internal_strconv_uint64pow10)) 3 (cellsBy Rows.laid_math_bits_deBruijn32tab)) 4 (cellsBy Rows.laid_math_bits_deBruijn64tab) }

set_option maxRecDepth 1000000 in
theorem laid_met (os : Os) (args : Array Value) : laidMet Ybaf.prog Rows.lawS5350CRangeRow.laid ((laidFor Ybaf.prog os).forCall (fun _ _ => 0) ⟨#[], args, []⟩).memory :=
  (LaidIn.of_run (l := Rows.lawS5350CRangeRow.laid) [3, 4, 2] 10 (by kernel_rfl) (by kernel_rfl) (by kernel_rfl) (by kernel_rfl)).met

theorem witness_row (os : Os) {H : Type} (enc : TypeId × Value → H) :
    (OpenSpec.ofChange Rows.lawS5350CRangeSpec).preRow enc Ybaf.prog Ybaf.f3 Rows.lawS5350CRangeRow.domain false Rows.lawS5350CRangeRow.laid ((laidFor Ybaf.prog os).forCall (fun _ _ => 0) ⟨#[], #[.string ⟨#[]⟩, .int .i64 0, .int .u8 0], []⟩).memory #[.string ⟨#[]⟩, .int .i64 0, .int .u8 0] := by
  have hw : (DataW.whole enc Ybaf.prog ((laidFor Ybaf.prog os).forCall (fun _ _ => 0) ⟨#[], #[.string ⟨#[]⟩, .int .i64 0, .int .u8 0], []⟩).memory Ybaf.f3.params.toList (OpenSpec.ofChange Rows.lawS5350CRangeSpec).vars false #[Value.string ⟨#[]⟩, .int .i64 0, .int .u8 0].toList 8).map (fun x => (x.1, x.2.1)) =
      some ([.lit (.string []), .lit (.int .i64 0), .lit (.int .u8 0)], []) := by kernel_rfl
  obtain ⟨⟨x1, x2, x3⟩, hx, hx1⟩ := Option.map_eq_some_iff.1 hw
  simp only [Prod.mk.injEq] at hx1
  obtain ⟨rfl, rfl⟩ := hx1
  exact OpenSpec.preRow_of_cond 8 hx (by kernel_rfl) (fun k hk => by cases hk) (by kernel_rfl) (laid_met os _)

theorem pow_data : (Rows.laid_internal_strconv_uint64pow10 : DataW Unit) = Lib.tabData .u64 Lib.pow10Tab := by kernel_rfl

set_option maxRecDepth 100000 in
theorem lifted (os : Os) (started : os.Started) (H : Type) (enc : TypeId × Value → H) :
    ReturnsInTold Option.none {} Ybaf.checked os 3 .any Input.okWide ((OpenSpec.ofChange Rows.lawS5350CRangeSpec).preRow enc Ybaf.prog Ybaf.f3 Rows.lawS5350CRangeRow.domain false Rows.lawS5350CRangeRow.laid)
      (fun F => ((OpenSpec.ofChange Rows.lawS5350CRangeSpec).at F).post enc Ybaf.prog Ybaf.f3 false true false false) (aloneAtReturn Ybaf.prog) nothingAlways := by
  refine returnsInTold_of_row (C := Ybaf.checked) (s := OpenSpec.ofChange Rows.lawS5350CRangeSpec) (by kernel_rfl) own started (by kernel_rfl) Ybaf.func3
    (OpenSpec.witness_stopped_atRef (enc := enc) (C := Ybaf.checked) false (laidFor Ybaf.prog os) #[.string ⟨#[]⟩, .int .i64 0, .int .u8 0] rfl (by kernel_rfl) (by kernel_rfl) (by kernel_rfl) (witness_row os enc)) ?_
  intro F W base args ds gs before _ hF hval0 hW _ _ _ hL _
  have hval : ∀ (j : Nat) t v, Ybaf.f3.params[j]? = some t → args[j]? = some v → Value.okWide Ybaf.prog W .any base t v := hval0
  have hW' := hW
  obtain ⟨p, q, hA0, hV, rfl, _, _⟩ := hW
  have hA : DataW.TrodAll enc Ybaf.prog W 0 (fun _ => true) true Ybaf.f3.params.toList args.toList ds p := hA0
  rw [Ybaf.params3] at hA hval
  obtain ⟨v0, vs0, d0, ds0, p0, q0, hargs, rfl, rfl, h0, r0⟩ := trodAll_cons hA
  obtain ⟨v1, vs1, d1, ds1, p1, q1, rfl, rfl, rfl, h1, r1⟩ := trodAll_cons r0
  obtain ⟨v2, vs2, d2, ds2, p2, q2, rfl, rfl, rfl, h2, r2⟩ := trodAll_cons r1
  obtain ⟨rfl, rfl, rfl⟩ := trodAll_nil r2
  obtain rfl : args = #[v0, v1, v2] := by cases args; simp_all
  obtain ⟨rfl, rfl⟩ := trodVars_none hV
  obtain ⟨s, rfl, rfl, rfl, ws⟩ := open_string Ybaf.underlying9 (hval 0 9 v0 rfl rfl) h0
  obtain ⟨y, rfl, rfl, rfl, wy⟩ := open_int Ybaf.underlying3 (hval 1 3 v1 rfl rfl) h1
  obtain ⟨o, rfl, rfl, rfl, wo⟩ := open_int Ybaf.underlying5 (hval 2 5 v2 rfl rfl) h2
  clear hA0 hval0
  have hL0 : laidMet Ybaf.prog Rows.lawS5350CRangeRow.laid W := hL
  have hL1 := laidMet.tail (P := Ybaf.prog) (w := W) hL0
  have hL2 := laidMet.tail (P := Ybaf.prog) (w := W) hL1
  have htab : Lib.TabIs Ybaf.prog W Ybaf.powName .u64 Lib.pow10Tab := by
    refine Lib.tabIs_of_head (g := 2) (t := 67) (e := 51) (n := 20) (rest := []) (by kernel_rfl) (by kernel_rfl) (by kernel_rfl) (by kernel_rfl) (by kernel_rfl) (by kernel_rfl) ?_
    rw [← pow_data]
    exact hL2
  obtain ⟨y0, y1⟩ : -9223372036854775808 ≤ y ∧ y ≤ 9223372036854775807 := by
    simp [Lit.wf, IntKind.min, IntKind.max, IntKind.signed, IntKind.bits] at wy
    omega
  obtain ⟨o0, o1⟩ : 0 ≤ o ∧ o ≤ 255 := by
    simp [Lit.wf, IntKind.min, IntKind.max, IntKind.signed, IntKind.bits] at wo
    omega
  refine (range_any F.told s y o W hF y0 y1 o0 o1 htab).mono fun e W' ⟨he, bel⟩ => ?_
  subst he
  exact ⟨_, rfl, _, _, _, [], _, [], hW', trodAll_mk1 (shut_bool Ybaf.underlying4 _), (trodAll_cons_mk (shut_string Ybaf.underlying9 ws) (trodAll_cons_mk (shut_int Ybaf.underlying3 wy) (trodAll_cons_mk (shut_int Ybaf.underlying5 wo) trodAll_mk0))), rfl, bel.frame _, fun h => by cases h⟩

theorem laidOut : laidOutB Ybaf.pinned.checked.prog = true := by kernel_rfl
theorem stops : Ybaf.pinned.checked.prog.stops = ["fmt.errorf"] := by kernel_rfl
theorem stopKnobs : Ybaf.pinned.checked.prog.stopKnobs = [] := by kernel_rfl
theorem quiet (os : Os) : Stop.quiet Ybaf.pinned.checked.prog os := by
  intro k hk
  rw [stopKnobs] at hk
  cases hk

/-- THE STATEMENT -/
theorem proved : Rows.LawS5350CRangeToldSaid :=
  Claim7.holds_of_told_tied_any_at .later 3 Ybaf.f3 "fmt.errorf" [] [] _ _ _ _ _ (by kernel_rfl) rfl rfl rfl laidOut (by kernel_rfl) rfl ⟨rfl, rfl, rfl, rfl, rfl, rfl, rfl⟩ rfl rfl (by kernel_rfl) (by kernel_rfl) Ybaf.func3 (by kernel_rfl)
    (of_decide_eq_true (by kernel_rfl)) (by unfold Func.isWrapper; first | (rw [if_pos (by decide +kernel)]; kernel_rfl) | (rw [if_neg (by decide +kernel)]; exact ⟨rfl, rfl⟩)) stops.symm rfl stopKnobs.symm (by kernel_rfl)
    (by kernel_rfl) (by kernel_rfl) (by kernel_rfl) (by kernel_rfl) (by kernel_rfl) (by kernel_rfl) (by kernel_rfl) (by kernel_rfl) (by kernel_rfl) rfl (by kernel_rfl) rfl rfl
    rfl rfl
    rfl (by kernel_rfl) (by kernel_rfl) (by kernel_rfl) (by decide) (by kernel_rfl) lawS5350CRange_row_tie
    (OpenClaim.moreEntering_of (by kernel_rfl) (by kernel_rfl) (by kernel_rfl) (by kernel_rfl) (by kernel_rfl) (by kernel_rfl) (by kernel_rfl) (by kernel_rfl) (by kernel_rfl) (by kernel_rfl))
    ⟨_, WideRow.started_initial, quiet _⟩
    (fun os started _ H enc _ => lifted os started H enc)

end Go.Proofs.YbulkdftuFmt.lawS5350CRange
