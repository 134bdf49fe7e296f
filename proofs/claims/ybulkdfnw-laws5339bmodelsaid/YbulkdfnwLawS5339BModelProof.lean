/-
  Rows.LawS5339BModelSaid: the walk of LawS5339BModel over the contracts of isCaptureName and zzs5339bok (YbulkdfnwCap); the row's step as the shell laid it.
-/
import Derived.Test.YbulkdfnwRows
import Derived.WalkKit
import Derived.ProofKit
import Derived.OpenShut
import Derived.ShutString
import Derived.Test.YbulkdfnwCap
namespace Go.Proofs.Ybulkdfnw.lawS5339BModel
open Go.ChangeShapes Go.WideShapes Go.ChangeAt Go.RowKit
open Go.ChangeMaps (open_string shut_string)
set_option linter.unusedVariables false

theorem own : ownKnob Yba.prog.godebug = none := by kernel_rfl

/-! ### STEP 1: THE WALK: the Go text returns true. 'Grown w w'': the world has at most new blocks (Derived/RowKit3.lean). Part the cases AHEAD of 'go_enter' where a test parts the walk; take each callee by a contract of your own. -/
theorem frozen_iter (w : World) (s : ByteArray) (pos : Nat) (a : Addr) : (w.iter s pos).frozen? a = w.frozen? a := by
  by_cases h : a.block = w.heap.size
  · have e1 : (w.iter s pos).heap[a.block]? = some (.stringIter s pos) := by rw [h]; exact World.iter_heap w s pos
    have e2 : w.heap[a.block]? = none := by rw [h]; simp
    simp [World.frozen?, e1, e2]
  · exact World.frozen?_alloc_old _ _ _ h

theorem grown_iter (w : World) (s : ByteArray) (pos : Nat) : Grown w (w.iter s pos) :=
  ⟨World.keptBut_alloc _ _ _, fun a => frozen_iter w s pos a, by simp [World.iter]⟩

set_option maxHeartbeats 1000000 in
theorem walk_some (s : ByteArray) (hs : 0 < s.size) (hl : s.size ≤ 4096) (w : World) :
    Calls Yba.prog 4 #[.string s] w fun e w' => e = .returned (.bool true) ∧ Grown w w' := by
  go_enter Yba.func4, Yba.ntmps4
  go_wp2
  go_loop [3, 4] (fun t i => ∃ k : Nat, k ≤ s.size ∧ i = .int .i64 k ∧ t = .bool true ∧ Hid ((s.data.toList.take k).all Cap.ok8 = true)) (fun _ i => s.size - (intOf i).toNat)
  case atStart => exact ⟨0, Nat.zero_le _, rfl, rfl, rfl⟩
  case round =>
    obtain ⟨k, hk, rfl, rfl, hall⟩ := hrel
    by_cases hlt : k < s.size
    · cases hb : Cap.ok8 s[k] with
      | true =>
        have hok : Hid (Cap.ok8 s[k] = true) := hb
        go_wp2_with (go_at_call 8; refine (Cap.ok_walk _ _).mono ?_; rintro e w' ⟨rfl, rfl⟩)
        go_round
        case rel => exact ⟨k + 1, by omega, by go_num, rfl, Cap.all_snoc hlt hall hok⟩
        case measure => simp [intOf]; omega
      | false =>
        have hcb : Cap.capB s = false := Cap.capB_bad hlt hb
        go_wp2_with (first | (go_at_call 8; refine (Cap.ok_walk _ _).mono ?_; rintro e w' ⟨rfl, rfl⟩) | (go_at_call 9; refine (Cap.cap_some _ _ hs).mono ?_; rintro e w' ⟨rfl, pos, rfl⟩))
        go_ret
        exact ⟨rfl, grown_iter _ _ _⟩
    · have hcb : Cap.capB s = true := Cap.capB_good hlt hs hall
      go_wp2_with (go_at_call 9; refine (Cap.cap_some _ _ hs).mono ?_; rintro e w' ⟨rfl, pos, rfl⟩)
      go_ret
      exact ⟨rfl, grown_iter _ _ _⟩

set_option maxHeartbeats 1000000 in
theorem walk_none (s : ByteArray) (hs : s.size = 0) (w : World) :
    Calls Yba.prog 4 #[.string s] w fun e w' => e = .returned (.bool true) ∧ Grown w w' := by
  have hcb : Cap.capB s = false := Cap.capB_empty hs
  have hz : ¬ 0 < (s.size : Int) := by omega
  have hz2 : ¬ 4096 < (s.size : Int) := by omega
  have HS : Hid (s.size = 0) := hs
  clear hs
  go_enter Yba.func4, Yba.ntmps4
  go_wp2
  refine wp_loop_rounds 1 ?_
  rw [rounds_succ]
  go_wp2_with (go_at_call 9; refine (Cap.cap_empty _ _ HS.out).mono ?_; rintro e w' ⟨rfl, rfl⟩)
  go_ret
  exact ⟨rfl, Grown.refl _⟩

theorem walk (a0 : ByteArray) (w0 : a0.size ≤ maxLen) (w : World) :
    Calls Yba.prog 4 #[.string a0] w fun e w' => e = .returned (.bool true) ∧ Grown w w' := by
  by_cases h1 : a0.size ≤ 4096
  · by_cases h2 : 0 < a0.size
    · exact walk_some a0 h2 h1 w
    · exact walk_none a0 (by omega) w
  · have h3 : 4096 < (a0.size : Int) := by omega
    go_enter Yba.func4, Yba.ntmps4
    go_wp2
    go_ret
    exact ⟨rfl, Grown.refl _⟩

/-! ### THE ROW's STEP: WRITTEN OUT: LEAVE IT -/
set_option maxRecDepth 100000 in
theorem lifted (os : Os) (started : os.Started) (H : Type) (enc : TypeId × Value → H) :
    ReturnsInHanded {} Yba.checked os 4 .any (Rows.lawS5339BModelSpec.pre6 enc Yba.prog Yba.f4 Rows.lawS5339BModelRow.domain false) (Rows.lawS5339BModelSpec.post enc Yba.prog Yba.f4 false true false false) := by
  refine returnsInHanded_of_change (C := Yba.checked) own started (by kernel_rfl) Yba.func4
    (ChangeSpec.witness6 (enc := enc) (C := Yba.checked) false ⟨#[], #[.string ByteArray.empty], []⟩ 8 (by kernel_rfl) (by kernel_rfl) (by kernel_rfl) (by kernel_rfl)) ?_
  intro W base args ds gs before hval0 hW hcnd _
  have hval : ∀ (j : Nat) t v, Yba.f4.params[j]? = some t → args[j]? = some v → Value.okWide Yba.prog W .any base t v := hval0
  have hW' := hW
  obtain ⟨p, q, hA0, hV, rfl, hfz, hnd⟩ := hW
  have hA : DataW.TrodAll enc Yba.prog W 0 (fun _ => true) true Yba.f4.params.toList args.toList ds p := hA0
  rw [Yba.params4] at hA hval
  obtain ⟨v0, vs0, d0, ds0, p0, q0, hargs, rfl, rfl, h0, r0⟩ := trodAll_cons hA
  obtain ⟨rfl, rfl, rfl⟩ := trodAll_nil r0
  obtain rfl : args = #[v0] := by cases args; simp_all
  obtain ⟨rfl, rfl⟩ := trodVars_none hV
  obtain ⟨a0, rfl, rfl, rfl, w0⟩ := open_string Yba.underlying9 (hval 0 9 v0 rfl rfl) h0
  clear hA0 hval0
  simp only [List.append_nil] at hW'
  refine (walk a0 w0 W).mono fun e W' ⟨he, hg⟩ => ?_
  subst he
  exact ⟨_, rfl, post_of_same (pa := []) (pv := []) hW' (fun _ _ _ => (trodAll_cons_mk (shut_bool Yba.underlying4 _) trodAll_mk0)) (fun sp _ => (trodAll_cons_mk (shut_string Yba.underlying9 w0) trodAll_mk0)) (fun _ _ => rfl) rfl
    (hg.frame _) hg.2.1 (ok_one (by kernel_rfl) rfl (okWide_bool_mk Yba.underlying4 _))⟩

theorem over : Rows.lawS5339BModelRow.holds Yba.pinned (OpenSpec.ofChange Rows.lawS5339BModelSpec) :=
  OpenClaim.holds_of_wide 4 Yba.f4 rfl rfl rfl rfl rfl rfl rfl ⟨rfl, rfl, rfl, rfl, rfl⟩ rfl rfl rfl rfl rfl (by kernel_rfl) Yba.func4 (by kernel_rfl)
    (of_decide_eq_true (by kernel_rfl)) (by unfold Func.isWrapper; first | (rw [if_pos (by decide +kernel)]; kernel_rfl) | (rw [if_neg (by decide +kernel)]; exact ⟨rfl, rfl⟩))
    (fun os started H enc _ => lifted os started H enc)

/-- ████ THE STATEMENT ████ -/
theorem proved : Rows.LawS5339BModelSaid := over
end Go.Proofs.Ybulkdfnw.lawS5339BModel
