/-
  The table of names: what its map reads as; an append that says where the row lies. Nothing of the dump.
-/
import Derived.WalkKit
import Derived.Maps.OwnSet
import Derived.Maps.AppendAt
namespace Go.Proofs.Ybulkdfpm.Tab
open Go.RowKit Go.Maps

/-- The map D holds each name of ns at its place. -/
structure Tab (D : DataW Unit) (ns : List ByteArray) : Prop where
  tidy : Tidy D
  size : Maps.size D = ns.length
  has : ∀ s : ByteArray, Maps.has D (.string s.data.toList) = true ↔ s ∈ ns
  look : ∀ i (h : i < ns.length), D.atKey (.string ns[i].data.toList) (.lit (.int .i64 0)) = .lit (.int .i64 (i : Int))

theorem bytes_inj {s t : ByteArray} (h : s.data.toList = t.data.toList) : s = t := by
  cases s with | mk a => cases t with | mk b =>
    have : a = b := Array.toList_inj.1 h
    rw [this]

theorem eq_of_toList {s t : ByteArray} (h : (s.toList == t.toList) = true) : s = t := by
  have h2 : s.toList = t.toList := by simpa using h
  rw [ByteArray.toList_eq, ByteArray.toList_eq] at h2
  exact bytes_inj h2

theorem ne_toList {s t : ByteArray} (h : s ≠ t) : (s.toList == t.toList) = false := by
  rw [Bool.eq_false_iff]
  intro hc
  exact h (eq_of_toList hc)

theorem Tab.empty : Tab (.map []) [] := ⟨tidy_empty, rfl, fun s => by simp [Maps.has], fun i h => by simp at h⟩

theorem Tab.put {D : DataW Unit} {ns : List ByteArray} (h : Tab D ns) {s : ByteArray} (hs : s ∉ ns) : Tab (D.put (.string s.data.toList) (.lit (.int .i64 (ns.length : Int)))) (ns ++ [s]) := by
  have hk : WideAt.IsKeyLit (.string s.data.toList) := trivial
  have hno : Maps.has D (.string s.data.toList) = false := by rw [Bool.eq_false_iff]; intro hc; exact hs ((h.has s).1 hc)
  refine ⟨h.tidy.put hk _, ?_, ?_, ?_⟩
  · rw [size_put h.tidy, hno, h.size]; simp
  · intro t
    by_cases hts : t = s
    · subst hts
      rw [has_put_same h.tidy.isMap hk]
      simp
    · rw [has_put_other (fun e => hts (bytes_inj (by simpa using e))), h.has]
      simp [hts]
  · intro i hi
    by_cases hil : i < ns.length
    · have e : (ns ++ [s])[i] = ns[i] := List.getElem_append_left hil
      rw [e, atKey_put_other ?_, h.look i hil]
      intro e2
      have e3 : ns[i] = s := bytes_inj (by simpa using e2)
      exact hs (e3 ▸ List.getElem_mem hil)
    · have hi2 : i = ns.length := by simp at hi; omega
      subst hi2
      have e : (ns ++ [s])[ns.length] = s := by simp
      rw [e, atKey_put_same h.tidy.isMap hk]

section
variable {P : Program} (w : World)
/-- Where the row lies behind an append of one cell: where it lay, or in a new block. -/
theorem append_where (base : Nat) (t ty e : TypeId) (i : TypeInfo) (z : Value) (bytes : Nat) (ht : P.underlying t = some (.slice e)) (hi : P.info? e = some i) (hz : i.zero = some z)
    (hsize : i.size = 1) (hby : i.bytes = bytes)
    (v : Value) (n : Nat) (xs : List Value) (hown : w.ownsRow base e 1 v n xs)
    (a : Addr) (c : Nat) (x : Value) (hnews : ∀ j u, [x][j]? = some u → w.cell? (a.add j) = some u) (h1 : ∀ u ∈ [x], u.oneCell' = true)
    (h63 : n + 1 ≤ maxLen) (hbytes : (n + 1) * bytes ≤ 140737488355328)
    {v' : Value} {w' : World} (hrun : (Builtin.append_ #[t, t] ty #[v, .slice (some a) 1 c]).run P w = .ok v' w') :
    v'.ownBlock = v.ownBlock ∨ v'.ownBlock = some w.heap.size := by
  subst hby
  have hsmall : n + 1 ≤ 9223372036854775807 := by simp only [maxLen] at h63; omega
  have hl : [x].length = 1 * i.size := by rw [hsize]; rfl
  rcases hown.2 with ⟨rfl, rfl⟩ | ⟨g, cap, cur, rfl, hbg, hg, hnc, hcm, hcs, htake⟩
  · have hr := run_append_nil (P := P) w t ty e i z ht hi hz a 1 c [x] hl hnews (by omega) (by omega) (by have hb := hbytes; simp only [Nat.zero_add] at hb; omega)
    rw [hr] at hrun
    cases hrun
    right; rfl
  · by_cases hroom : n + 1 ≤ cap
    · have hfit : n * i.size + [x].length ≤ cur.size := by rw [hcs, hsize]; simp; omega
      have hr := run_append_room (P := P) w t ty e i ht hi g n cap cur hg a 1 c [x] hl hnews h1 hroom hfit
      rw [hr] at hrun
      cases hrun
      left; rfl
    · have holds : ∀ j u, xs[j]? = some u → w.cell? ((⟨g, 0, none⟩ : Addr).add j) = some u := hown.cells (g := g) rfl
      have hr := run_append_grow (P := P) w t ty e i z ht hi hz ⟨g, 0, none⟩ n cap xs (by rw [hsize]; exact hown.1) holds a 1 c [x] hl hnews (by omega) (by omega) (growslice_fits (by omega) hbytes)
      rw [hr] at hrun
      cases hrun
      right; rfl

theorem wpList_append_one {ops : Array Oper} {rest : List Oper} {o : Oper} {a : Act} {Q : Exit → Act → World → Prop} (hgd : o.guard = none) (s x : Operand) (t : TypeId)
    (ho : o.op = .call { callee := .builtin .append, args := #[s, x], argTypes := #[t, t] })
    (base : Nat) (e : TypeId) (i : TypeInfo) (z : Value) (bytes : Nat) (ht : P.underlying t = some (.slice e)) (hi : P.info? e = some i) (hz : i.zero = some z)
    (hsize : i.size = 1) (hby : i.bytes = bytes) (hzs : z.cells.size = 1)
    (v : Value) (n : Nat) (xs : List Value) (hs : a.eval s = v) (hown : w.ownsRow base e 1 v n xs)
    (ad : Addr) (c : Nat) (u : Value) (hx : a.eval x = .slice (some ad) 1 c) (hnews : ∀ j u', [u][j]? = some u' → w.cell? (ad.add j) = some u') (h1 : ∀ u' ∈ [u], u'.oneCell' = true)
    (h63 : n + 1 ≤ maxLen) (hbytes : (n + 1) * bytes ≤ 140737488355328) (hbase : base ≤ w.heap.size)
    (h : ∀ g cap w', w'.ownsRow base e 1 (.slice (some ⟨g, 0, none⟩) (n + 1) cap) (n + 1) (xs ++ [u]) → w.grownBy w' v.ownBlock → (some g = v.ownBlock ∨ g = w.heap.size) → wpList P ops Q rest (a.put o.dst (.slice (some ⟨g, 0, none⟩) (n + 1) cap)) w') : wpList P ops Q (o :: rest) a w := by
  refine wpList_plain hgd fun K hK' => ?_
  obtain ⟨v', w', hr, h2, h3, h4⟩ := run_append_own (P := P) w base t o.type e i z 1 bytes ht hi hz hsize hby hzs (by omega) v n xs hown ad 1 c [u] rfl hnews h1 h63 hbytes hbase
  have h5 := append_where (P := P) w base t o.type e i z bytes ht hi hz hsize hby v n xs hown ad c u hnews h1 h63 hbytes hr
  obtain ⟨g, cap, rfl⟩ : ∃ g cap, v' = .slice (some ⟨g, 0, none⟩) (n + 1) cap := by
    rcases h2.2 with ⟨hv, hn0⟩ | ⟨g, cap, _, hv, _⟩
    · omega
    · exact ⟨g, cap, hv⟩
  unfold Oper.wp
  simp [execOp, ho, resolve, invoke, builtin, hs, hx, hr, Result.andThen]
  refine hK' _ _ (h g cap w' h2 h3 ?_)
  rcases h5 with h5 | h5
  · left; exact h5
  · right; simpa [Value.ownBlock] using h5
end
end Go.Proofs.Ybulkdfpm.Tab
