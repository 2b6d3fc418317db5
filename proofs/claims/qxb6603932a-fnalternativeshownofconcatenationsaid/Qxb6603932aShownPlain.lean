/-
  The plain law of alternativeShown: which index shows. No Go in sight. By an AI agent.
-/
import Derived.Test.Qxb6603932aParts
namespace Go.Proofs.Qxb6603932a

theorem plain_ne_html : plainL ≠ htmlL := by decide

theorem shownFrom_plain : ∀ (ts : List (List UInt8)) (i : Nat) (h : Int), plainL ∈ ts → ∃ p, shownFrom i h ts = ((i + p : Nat) : Int) ∧ ts[p]? = some plainL ∧ plainL ∉ ts.take p
  | [], _, _, hm => by simp at hm
  | t :: ts, i, h, hm => by
    by_cases e : t = plainL
    · exact ⟨0, by rw [shownFrom, if_pos e]; rfl, by simp [e], by simp⟩
    · have hm' : plainL ∈ ts := by
        rcases List.mem_cons.1 hm with h1 | h1
        · exact absurd h1.symm e
        · exact h1
      rw [shownFrom, if_neg e]
      have fin : ∀ h', ∃ p, shownFrom (i + 1) h' ts = ((i + p : Nat) : Int) ∧ (t :: ts)[p]? = some plainL ∧ plainL ∉ (t :: ts).take p := by
        intro h'
        obtain ⟨p, e1, e2, e3⟩ := shownFrom_plain ts (i + 1) h' hm'
        refine ⟨p + 1, by rw [e1]; congr 1; omega, by simpa using e2, ?_⟩
        simp only [List.take_succ_cons, List.mem_cons, not_or]
        exact ⟨fun h => e h.symm, e3⟩
      split
      · exact fin _
      · exact fin _

theorem shownFrom_kept : ∀ (ts : List (List UInt8)) (i : Nat) (h : Int), plainL ∉ ts → 0 ≤ h → shownFrom i h ts = h
  | [], _, _, _, h0 => by rw [shownFrom]; omega
  | t :: ts, i, h, hm, h0 => by
    simp only [List.mem_cons, not_or] at hm
    rw [shownFrom, if_neg (fun e => hm.1 e.symm), if_neg (by omega)]
    exact shownFrom_kept ts (i + 1) h hm.2 h0

theorem shownFrom_html : ∀ (ts : List (List UInt8)) (i : Nat) (h : Int), plainL ∉ ts → h < 0 → htmlL ∈ ts → ∃ p, shownFrom i h ts = ((i + p : Nat) : Int) ∧ ts[p]? = some htmlL ∧ htmlL ∉ ts.take p
  | [], _, _, _, _, hm => by simp at hm
  | t :: ts, i, h, hn, h0, hm => by
    simp only [List.mem_cons, not_or] at hn
    rw [shownFrom, if_neg (fun e => hn.1 e.symm)]
    by_cases e : t = htmlL
    · rw [if_pos ⟨e, h0⟩, shownFrom_kept ts (i + 1) i hn.2 (by omega)]
      exact ⟨0, rfl, by simp [e], by simp⟩
    · rw [if_neg (fun h => e h.1)]
      have hm' : htmlL ∈ ts := by
        rcases List.mem_cons.1 hm with h1 | h1
        · exact absurd h1.symm e
        · exact h1
      obtain ⟨p, e1, e2, e3⟩ := shownFrom_html ts (i + 1) h hn.2 h0 hm'
      refine ⟨p + 1, by rw [e1]; congr 1; omega, by simpa using e2, ?_⟩
      simp only [List.take_succ_cons, List.mem_cons, not_or]
      exact ⟨fun h => e h.symm, e3⟩

theorem shownFrom_zero : ∀ (ts : List (List UInt8)) (i : Nat) (h : Int), plainL ∉ ts → h < 0 → htmlL ∉ ts → shownFrom i h ts = 0
  | [], _, _, _, h0, _ => by rw [shownFrom]; omega
  | t :: ts, i, h, hn, h0, hm => by
    simp only [List.mem_cons, not_or] at hn hm
    rw [shownFrom, if_neg (fun e => hn.1 e.symm), if_neg (fun e => hm.1 e.1.symm)]
    exact shownFrom_zero ts (i + 1) h hn.2 h0 hm.2
end Go.Proofs.Qxb6603932a
