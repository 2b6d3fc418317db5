/-
  The plain law of alternativeShown over a list behind a list. By an AI agent.
-/
import Derived.Test.Qxb6603932aShownPlain
namespace Go.Proofs.Qxb6603932a

theorem shownFrom_step_plain {t : List UInt8} {ts : List (List UInt8)} {i : Nat} {h : Int} (e : t = plainL) : shownFrom i h (t :: ts) = i := by rw [shownFrom, if_pos e]
theorem shownFrom_step_html {t : List UInt8} {ts : List (List UInt8)} {i : Nat} {h : Int} (e : t ≠ plainL) (e2 : t = htmlL ∧ h < 0) : shownFrom i h (t :: ts) = shownFrom (i + 1) i ts := by rw [shownFrom, if_neg e, if_pos e2]
theorem shownFrom_step_other {t : List UInt8} {ts : List (List UInt8)} {i : Nat} {h : Int} (e : t ≠ plainL) (e2 : ¬ (t = htmlL ∧ h < 0)) : shownFrom i h (t :: ts) = shownFrom (i + 1) h ts := by rw [shownFrom, if_neg e, if_neg e2]

theorem cat_plain_a : ∀ (ta tb : List (List UInt8)) (i : Nat) (h : Int), plainL ∈ ta → shownFrom i h (ta ++ tb) = shownFrom i h ta
  | [], _, _, _, hm => by simp at hm
  | t :: ta, tb, i, h, hm => by
    rw [List.cons_append]
    by_cases e : t = plainL
    · rw [shownFrom_step_plain e, shownFrom_step_plain e]
    · have hm' : plainL ∈ ta := by
        rcases List.mem_cons.1 hm with h1 | h1
        · exact absurd h1.symm e
        · exact h1
      by_cases e2 : t = htmlL ∧ h < 0
      · rw [shownFrom_step_html e e2, shownFrom_step_html e e2, cat_plain_a ta tb _ _ hm']
      · rw [shownFrom_step_other e e2, shownFrom_step_other e e2, cat_plain_a ta tb _ _ hm']

theorem shift_plain : ∀ (tb : List (List UInt8)) (i j : Nat) (h h' : Int), plainL ∈ tb → shownFrom (i + j) h tb = i + shownFrom j h' tb
  | [], _, _, _, _, hm => by simp at hm
  | t :: tb, i, j, h, h', hm => by
    by_cases e : t = plainL
    · rw [shownFrom_step_plain e, shownFrom_step_plain e, Int.natCast_add]
    · have hm' : plainL ∈ tb := by
        rcases List.mem_cons.1 hm with h1 | h1
        · exact absurd h1.symm e
        · exact h1
      have a : ∃ g, shownFrom (i + j) h (t :: tb) = shownFrom (i + (j + 1)) g tb := by
        by_cases e2 : t = htmlL ∧ h < 0
        · exact ⟨_, shownFrom_step_html e e2⟩
        · exact ⟨_, shownFrom_step_other e e2⟩
      have b : ∃ g, shownFrom j h' (t :: tb) = shownFrom (j + 1) g tb := by
        by_cases e2 : t = htmlL ∧ h' < 0
        · exact ⟨_, shownFrom_step_html e e2⟩
        · exact ⟨_, shownFrom_step_other e e2⟩
      obtain ⟨g, ea⟩ := a
      obtain ⟨g', eb⟩ := b
      rw [ea, eb]
      exact shift_plain tb i (j + 1) g g' hm'

theorem cat_plain_b : ∀ (ta tb : List (List UInt8)) (i : Nat) (h : Int), plainL ∉ ta → plainL ∈ tb → shownFrom i h (ta ++ tb) = ((i + ta.length : Nat) : Int) + shownFrom 0 (-1) tb
  | [], tb, i, h, _, hm => by
    rw [List.nil_append]
    exact shift_plain tb i 0 h (-1) hm
  | t :: ta, tb, i, h, hn, hm => by
    simp only [List.mem_cons, not_or] at hn
    have e : t ≠ plainL := fun e => hn.1 e.symm
    rw [List.cons_append]
    have a : ∃ g, shownFrom i h (t :: (ta ++ tb)) = shownFrom (i + 1) g (ta ++ tb) := by
      by_cases e2 : t = htmlL ∧ h < 0
      · exact ⟨_, shownFrom_step_html e e2⟩
      · exact ⟨_, shownFrom_step_other e e2⟩
    obtain ⟨g, ea⟩ := a
    rw [ea, cat_plain_b ta tb (i + 1) g hn.2 hm, List.length_cons, show i + 1 + ta.length = i + (ta.length + 1) by omega]

theorem cat_html_a : ∀ (ta tb : List (List UInt8)) (i : Nat) (h : Int), plainL ∉ ta → plainL ∉ tb → h < 0 → htmlL ∈ ta → shownFrom i h (ta ++ tb) = shownFrom i h ta
  | [], _, _, _, _, _, _, hm => by simp at hm
  | t :: ta, tb, i, h, hn, hb, h0, hm => by
    simp only [List.mem_cons, not_or] at hn
    have e : t ≠ plainL := fun e => hn.1 e.symm
    rw [List.cons_append]
    by_cases e2 : t = htmlL
    · rw [shownFrom_step_html e ⟨e2, h0⟩, shownFrom_step_html e ⟨e2, h0⟩, shownFrom_kept _ _ _ (by simp [hn.2, hb]) (by omega), shownFrom_kept _ _ _ hn.2 (by omega)]
    · have hm' : htmlL ∈ ta := by
        rcases List.mem_cons.1 hm with h1 | h1
        · exact absurd h1.symm e2
        · exact h1
      rw [shownFrom_step_other e (fun h => e2 h.1), shownFrom_step_other e (fun h => e2 h.1), cat_html_a ta tb _ _ hn.2 hb h0 hm']

theorem shift_html : ∀ (tb : List (List UInt8)) (i j : Nat) (h h' : Int), plainL ∉ tb → h < 0 → h' < 0 → htmlL ∈ tb → shownFrom (i + j) h tb = i + shownFrom j h' tb
  | [], _, _, _, _, _, _, _, hm => by simp at hm
  | t :: tb, i, j, h, h', hn, h0, h0', hm => by
    simp only [List.mem_cons, not_or] at hn
    have e : t ≠ plainL := fun e => hn.1 e.symm
    by_cases e2 : t = htmlL
    · rw [shownFrom_step_html e ⟨e2, h0⟩, shownFrom_step_html e ⟨e2, h0'⟩, shownFrom_kept _ _ _ hn.2 (by omega), shownFrom_kept _ _ _ hn.2 (by omega), Int.natCast_add]
    · have hm' : htmlL ∈ tb := by
        rcases List.mem_cons.1 hm with h1 | h1
        · exact absurd h1.symm e2
        · exact h1
      rw [shownFrom_step_other e (fun h => e2 h.1), shownFrom_step_other e (fun h => e2 h.1)]
      exact shift_html tb i (j + 1) h h' hn.2 h0 h0' hm'

theorem cat_html_b : ∀ (ta tb : List (List UInt8)) (i : Nat) (h : Int), plainL ∉ ta → plainL ∉ tb → h < 0 → htmlL ∉ ta → htmlL ∈ tb → shownFrom i h (ta ++ tb) = ((i + ta.length : Nat) : Int) + shownFrom 0 (-1) tb
  | [], tb, i, h, _, hb, h0, _, hm => by
    rw [List.nil_append]
    exact shift_html tb i 0 h (-1) hb h0 (by omega) hm
  | t :: ta, tb, i, h, hn, hb, h0, hh, hm => by
    simp only [List.mem_cons, not_or] at hn hh
    have e : t ≠ plainL := fun e => hn.1 e.symm
    rw [List.cons_append, shownFrom_step_other e (fun h => hh.1 h.1.symm), cat_html_b ta tb (i + 1) h hn.2 hb h0 hh.2 hm, List.length_cons, show i + 1 + ta.length = i + (ta.length + 1) by omega]

theorem shown_bounds (ts : List (List UInt8)) : 0 ≤ shownFrom 0 (-1) ts ∧ shownFrom 0 (-1) ts ≤ ts.length := by
  by_cases hp : plainL ∈ ts
  · obtain ⟨p, e1, e2, _⟩ := shownFrom_plain ts 0 (-1) hp
    have := (List.getElem?_eq_some_iff.1 e2).1
    rw [e1]; omega
  · by_cases hq : htmlL ∈ ts
    · obtain ⟨p, e1, e2, _⟩ := shownFrom_html ts 0 (-1) hp (by omega) hq
      have := (List.getElem?_eq_some_iff.1 e2).1
      rw [e1]; omega
    · rw [shownFrom_zero ts 0 (-1) hp (by omega) hq]; omega
end Go.Proofs.Qxb6603932a
