/-
  'Rows.FnRefFormsListsEachKindsPathInSchemaOrderSaid', proved: the frame over a slice of strings and a slice of ints. By an AI agent.
-/
import Derived.Test.Qxb6602891aLaw
namespace Go.Proofs.Qxb6602891a.fnRefFormsListsEachKindsPathInSchemaOrder
open Go.ChangeShapes Go.WideShapes Go.ChangeAt Go.RowKit

theorem own : ownKnob Try.prog.godebug = none := by kernel_rfl
theorem laidOut : laidOutB Try.prog = true := by kernel_rfl
theorem cells9 : Try.prog.cellsOf 9 = 1 := by kernel_rfl
theorem cells3 : Try.prog.cellsOf 3 = 1 := by kernel_rfl

/-- What the walk asks of the strings. -/
theorem viewS {H : Type} {enc : TypeId × Value → H} {W : World} {fuel len cap : Nat} {a0 : Option Addr} {d : DataW H} {p : List MemPlace}
    (hf : DataW.trod enc Try.prog W 0 (fun _ => true) true fuel 22 [.slice a0 len cap] = some (d, p)) (hlt : ∀ x ∈ p, x.block < W.heap.size) :
    ∃ ss, len ≤ maxLen ∧ StrsAt W a0 len ss := by
  rcases open_strings Try.underlying22 Try.underlying9 cells9 hf with ⟨hcs, hx⟩ | ⟨a, len', cap', ss, hcs, _, hl, hm, hz, hx, hcell, hws⟩
  · simp at hcs
    obtain ⟨rfl, rfl, rfl⟩ := hcs
    exact ⟨[], by simp [maxLen], Nat.le_refl _, fun j hj => absurd hj (by omega)⟩
  · simp at hcs
    obtain ⟨rfl, rfl, rfl⟩ := hcs
    simp only [Prod.mk.injEq] at hx
    obtain ⟨rfl, rfl⟩ := hx
    simp only [if_true] at hz
    refine ⟨ss, by omega, by omega, fun j hj => ?_⟩
    obtain ⟨b, off, spot⟩ := a
    have hspot : spot = none := by simpa [Addr.add] using World.cell?_spot (hcell 0 (by omega))
    subst hspot
    refine ⟨b, off, rfl, hlt (.cell b off) (MemPlace.mem_row.2 ⟨0, by omega, by simp⟩), by rw [← add_plain]; exact hcell j (by omega), hws _ ?_⟩
    have hj' : j < ss.length := by omega
    simp [hj']

/-- .. and of the ints. -/
theorem viewI {H : Type} {enc : TypeId × Value → H} {W : World} {fuel len cap : Nat} {a0 : Option Addr} {d : DataW H} {p : List MemPlace}
    (hf : DataW.trod enc Try.prog W 0 (fun _ => true) true fuel 38 [.slice a0 len cap] = some (d, p)) (hlt : ∀ x ∈ p, x.block < W.heap.size) :
    ∃ ps, len ≤ maxLen ∧ IntsAt W a0 len ps := by
  rcases open_ints Try.underlying38 Try.underlying3 cells3 hf with ⟨hcs, hx⟩ | ⟨a, len', cap', zs, hcs, _, hl, hm, hz, hx, hcell, hwz⟩
  · simp at hcs
    obtain ⟨rfl, rfl, rfl⟩ := hcs
    exact ⟨[], by simp [maxLen], Nat.le_refl _, fun j hj => absurd hj (by omega)⟩
  · simp at hcs
    obtain ⟨rfl, rfl, rfl⟩ := hcs
    simp only [Prod.mk.injEq] at hx
    obtain ⟨rfl, rfl⟩ := hx
    simp only [if_true] at hz
    refine ⟨zs, by omega, by omega, fun j hj => ?_⟩
    obtain ⟨b, off, spot⟩ := a
    have hspot : spot = none := by simpa [Addr.add] using World.cell?_spot (hcell 0 (by omega))
    subst hspot
    have hj' : j < zs.length := by omega
    have hw := hwz (zs.getD j 0) (by simp [hj'])
    have h1 : IntKind.i64.min = -9223372036854775808 := rfl
    have h2 : IntKind.i64.max = 9223372036854775807 := rfl
    simp only [Lit.wf, Bool.and_eq_true, decide_eq_true_eq] at hw
    exact ⟨b, off, rfl, hlt (.cell b off) (MemPlace.mem_row.2 ⟨0, by omega, by simp⟩), by rw [← add_plain]; exact hcell j (by omega), by omega, by omega⟩

set_option maxRecDepth 100000 in
theorem lifted (os : Os) (started : os.Started) (H : Type) (enc : TypeId × Value → H) :
    ReturnsInHanded {} Try.checked os 5 .any (Rows.fnRefFormsListsEachKindsPathInSchemaOrderSpec.pre6 enc Try.prog Try.f5 Rows.fnRefFormsListsEachKindsPathInSchemaOrderRow.domain false) (Rows.fnRefFormsListsEachKindsPathInSchemaOrderSpec.post enc Try.prog Try.f5 false true false false) := by
  refine returnsInHanded_of_change (C := Try.checked) own started (by kernel_rfl) Try.func5
    (ChangeSpec.witness6 (enc := enc) (C := Try.checked) false ⟨#[], #[.slice none 0 0, .slice none 0 0], []⟩ 8 (by kernel_rfl) (by kernel_rfl) (by kernel_rfl) (by kernel_rfl)) ?_
  intro W base args ds gs before hval0 hW _ _
  have hval : ∀ (j : Nat) t v, Try.f5.params[j]? = some t → args[j]? = some v → Value.okWide Try.prog W .any base t v := hval0
  have hW' := hW
  obtain ⟨p, q, hA0, hV, rfl, _, _⟩ := hW
  have hA : DataW.TrodAll enc Try.prog W 0 (fun _ => true) true Try.f5.params.toList args.toList ds p := hA0
  rw [Try.params5] at hA hval
  obtain ⟨v0, v1, d0, d1, p0, p1, rfl, rfl, rfl, h0, h1⟩ := trodAll_two hA
  obtain ⟨rfl, rfl⟩ := trodVars_none hV
  obtain ⟨a0, la, ca, rfl⟩ := okWide_slice Try.underlying22 (hval 0 22 v0 rfl rfl)
  obtain ⟨b0, lb, cb, rfl⟩ := okWide_slice Try.underlying38 (hval 1 38 v1 rfl rfl)
  have h0k := h0
  have h1k := h1
  obtain ⟨fuel0, hf0⟩ := h0
  obtain ⟨fuel1, hf1⟩ := h1
  clear hA0 hval0
  simp only [List.append_nil] at hW'
  have hlt : ∀ x ∈ p0 ++ p1, x.block < W.heap.size := fun x hx => by simpa using hW'.lt x hx
  have hlt0 : ∀ x ∈ p0, x.block < W.heap.size := fun x hx => hlt x (by simp [hx])
  have hlt1 : ∀ x ∈ p1, x.block < W.heap.size := fun x hx => hlt x (by simp [hx])
  obtain ⟨ss, hma, hSs⟩ := viewS (by simpa [Value.cells] using hf0) hlt0
  obtain ⟨ps, hmb, hPs⟩ := viewI (by simpa [Value.cells] using hf1) hlt1
  refine (law_any a0 b0 la ca lb cb ss ps W hma hmb hSs hPs).mono fun e W' ⟨he, hnx⟩ => ?_
  subst he
  refine ⟨_, rfl, _, _, _, [], p0 ++ p1, [], hW', ?_, ?_, rfl, hnx.frame _, fun h => by cases h⟩
  · exact trodAll_mk1 (shut_bool Try.underlying4 true)
  · exact trodAll_mk2 (Below.trod laidOut (by kernel_rfl) (of_decide_eq_true (by kernel_rfl)) h0k hnx hlt0) (Below.trod laidOut (by kernel_rfl) (of_decide_eq_true (by kernel_rfl)) h1k hnx hlt1)

theorem over : Rows.fnRefFormsListsEachKindsPathInSchemaOrderRow.holds Try.pinned (OpenSpec.ofChange Rows.fnRefFormsListsEachKindsPathInSchemaOrderSpec) :=
  OpenClaim.holds_of_wide 5 Try.f5 rfl rfl rfl rfl rfl rfl rfl ⟨rfl, rfl, rfl, rfl, rfl⟩ rfl rfl rfl rfl rfl (by kernel_rfl) Try.func5 (by kernel_rfl)
    (of_decide_eq_true (by kernel_rfl)) (by unfold Func.isWrapper; first | (rw [if_pos (by decide +kernel)]; kernel_rfl) | (rw [if_neg (by decide +kernel)]; exact ⟨rfl, rfl⟩))
    (fun os started H enc _ => lifted os started H enc)

theorem proved : Rows.FnRefFormsListsEachKindsPathInSchemaOrderSaid :=
  over
end Go.Proofs.Qxb6602891a.fnRefFormsListsEachKindsPathInSchemaOrder
