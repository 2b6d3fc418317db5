/-
  'Rows.FnAlternativeShownCaseTableSaid', proved: the frame over one slice of strings. By an AI agent.
-/
import Derived.Test.Qxb6603932aCaseTable
namespace Go.Proofs.Qxb6603932a.fnAlternativeShownCaseTable
open Go.ChangeShapes Go.WideShapes Go.ChangeAt Go.RowKit

theorem own : ownKnob Try.prog.godebug = none := by kernel_rfl
theorem laidOut : laidOutB Try.prog = true := by kernel_rfl
theorem cells9 : Try.prog.cellsOf 9 = 1 := by kernel_rfl

set_option maxRecDepth 100000 in
theorem lifted (os : Os) (started : os.Started) (H : Type) (enc : TypeId × Value → H) :
    ReturnsInHanded {} Try.checked os 8 .any (Rows.fnAlternativeShownCaseTableSpec.pre6 enc Try.prog Try.f8 Rows.fnAlternativeShownCaseTableRow.domain false) (Rows.fnAlternativeShownCaseTableSpec.post enc Try.prog Try.f8 false true false false) := by
  refine returnsInHanded_of_change (C := Try.checked) own started (by kernel_rfl) Try.func8
    (ChangeSpec.witness6 (enc := enc) (C := Try.checked) false ⟨#[], #[.slice none 0 0], []⟩ 8 (by kernel_rfl) (by kernel_rfl) (by kernel_rfl) (by kernel_rfl)) ?_
  intro W base args ds gs before hval0 hW _ _
  have hval : ∀ (j : Nat) t v, Try.f8.params[j]? = some t → args[j]? = some v → Value.okWide Try.prog W .any base t v := hval0
  have hW' := hW
  obtain ⟨p, q, hA0, hV, rfl, _, _⟩ := hW
  have hA : DataW.TrodAll enc Try.prog W 0 (fun _ => true) true Try.f8.params.toList args.toList ds p := hA0
  rw [Try.params8] at hA hval
  obtain ⟨v0, d0, rfl, rfl, h0⟩ := trodAll_one hA
  obtain ⟨rfl, rfl⟩ := trodVars_none hV
  obtain ⟨a0, len, cap, rfl⟩ := okWide_slice Try.underlying27 (hval 0 27 v0 rfl rfl)
  have h0k := h0
  obtain ⟨fuel, hf⟩ := h0
  clear hA0 hval0
  simp only [List.append_nil] at hW'
  have hlt : ∀ x ∈ p, x.block < W.heap.size := fun x hx => by simpa using hW'.lt x hx
  have fin : ∀ (W' : World), Below W.heap.size W W' →
      Rows.fnAlternativeShownCaseTableSpec.post enc Try.checked.prog Try.f8 false true false false W #[.slice a0 len cap] (.bool true) W' := by
    intro W' hnx
    refine ⟨_, _, _, [], p, [], hW', ?_, ?_, rfl, hnx.frame _, fun h => by cases h⟩
    · exact trodAll_mk1 (shut_bool Try.underlying4 true)
    · exact trodAll_mk1 (Below.trod laidOut (by kernel_rfl) (of_decide_eq_true (by kernel_rfl)) h0k hnx hlt)
  have main : ∀ ss : List ByteArray, len ≤ maxLen → len ≤ cap → StrsAt W a0 len ss →
      Calls Try.checked.prog 8 #[.slice a0 len cap] W fun e W' => ∃ v, e = Ending.returned v ∧ Rows.fnAlternativeShownCaseTableSpec.post enc Try.checked.prog Try.f8 false true false false W #[.slice a0 len cap] v W' := by
    intro ss hm hc hS
    refine (caseTable_any a0 len cap ss W hm hc hS).mono fun e W' ⟨he, hb⟩ => ?_
    subst he
    exact ⟨_, rfl, fin W' hb⟩
  rcases open_strings Try.underlying27 Try.underlying9 cells9 hf with ⟨hcs, hx⟩ | ⟨a, len', cap', ss, hcs, _, hl, hm, hz, hx, hcell, hws⟩
  · simp [Value.cells] at hcs
    obtain ⟨rfl, rfl, rfl⟩ := hcs
    exact main [] (by simp [maxLen]) (Nat.le_refl _) ⟨Nat.le_refl _, fun j hj => absurd hj (by omega)⟩
  · simp [Value.cells] at hcs
    obtain ⟨rfl, rfl, rfl⟩ := hcs
    simp only [Prod.mk.injEq] at hx
    obtain ⟨rfl, rfl⟩ := hx
    simp only [if_true] at hz
    refine main ss (by omega) hl ⟨by omega, fun j hj => ?_⟩
    obtain ⟨b, off, spot⟩ := a
    have hspot : spot = none := by simpa [Addr.add] using World.cell?_spot (hcell 0 (by omega))
    subst hspot
    refine ⟨b, off, rfl, hlt (.cell b off) (MemPlace.mem_row.2 ⟨0, by omega, by simp⟩), by rw [← add_plain]; exact hcell j (by omega), hws _ ?_⟩
    have hj' : j < ss.length := by omega
    simp [hj']

theorem over : Rows.fnAlternativeShownCaseTableRow.holds Try.pinned (OpenSpec.ofChange Rows.fnAlternativeShownCaseTableSpec) :=
  OpenClaim.holds_of_wide 8 Try.f8 rfl rfl rfl rfl rfl rfl rfl ⟨rfl, rfl, rfl, rfl, rfl⟩ rfl rfl rfl rfl rfl (by kernel_rfl) Try.func8 (by kernel_rfl)
    (of_decide_eq_true (by kernel_rfl)) (by unfold Func.isWrapper; first | (rw [if_pos (by decide +kernel)]; kernel_rfl) | (rw [if_neg (by decide +kernel)]; exact ⟨rfl, rfl⟩))
    (fun os started H enc _ => lifted os started H enc)

theorem proved : Rows.FnAlternativeShownCaseTableSaid :=
  over
end Go.Proofs.Qxb6603932a.fnAlternativeShownCaseTable
