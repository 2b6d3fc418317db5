/-
  The plain laws of the two scanners. No Go in sight. By an AI agent.
-/
import Derived.Test.Qxb6603932aScanPlain
namespace Go.Proofs.Qxb6603932a

/-- At depth d the comment closes inside l (then: what closes it does not hang on what follows; a deeper reading goes on behind it), or it does not (then all is taken, whatever the depth). -/
def Split (d : Nat) (l : List UInt8) : Prop :=
  (∃ t n, scanC d l = (t, n) ∧ n ≤ l.length ∧ (∀ m, scanC d (l ++ m) = (t, n)) ∧ ∀ e, 1 ≤ e → scanC (d + e) l = (t ++ 41 :: (scanC e (l.drop n)).1, n + (scanC e (l.drop n)).2)) ∨
  ((scanC d l).2 = l.length ∧ (scanC d (l ++ [97])).2 = l.length + 1 ∧ ∀ e, scanC (d + e) l = scanC d l)

theorem split_all : ∀ (l : List UInt8) (d : Nat), 1 ≤ d → Split d l
  | [], d, _ => .inr ⟨by rw [scanC_nil]; rfl, by rw [List.nil_append, scanC_plain d 97 (by decide) (by decide) (by decide), scanC_nil]; rfl, fun e => by rw [scanC_nil, scanC_nil]⟩
  | [c], d, hd => by
    by_cases c92 : c = 92
    · subst c92
      exact .inr ⟨by rw [scanC_esc_end]; rfl, by rw [List.singleton_append, scanC_esc, scanC_nil]; rfl, fun e => by rw [scanC_esc_end, scanC_esc_end]⟩
    · by_cases c40 : c = 40
      · subst c40
        refine .inr ⟨by rw [scanC_open, scanC_nil]; rfl, by rw [List.singleton_append, scanC_open, scanC_plain _ 97 (by decide) (by decide) (by decide), scanC_nil]; rfl, fun e => by rw [scanC_open, scanC_open, scanC_nil, scanC_nil]⟩
      · by_cases c41 : c = 41
        · subst c41
          by_cases h1 : d = 1
          · subst h1
            refine .inl ⟨[], 1, scanC_close _, by simp, fun m => by rw [List.singleton_append, scanC_close], fun e he => ?_⟩
            rw [scanC_shut (1 + e) (by omega), Nat.add_sub_cancel_left]
            simp [scanC_nil]
          · refine .inr ⟨by rw [scanC_shut d h1, scanC_nil]; rfl, by rw [List.singleton_append, scanC_shut d h1, scanC_plain _ 97 (by decide) (by decide) (by decide), scanC_nil]; rfl, fun e => by rw [scanC_shut d h1, scanC_shut (d + e) (by omega), scanC_nil, scanC_nil]⟩
        · refine .inr ⟨by rw [scanC_plain d c c92 c40 c41, scanC_nil]; rfl, by rw [List.singleton_append, scanC_plain d c c92 c40 c41, scanC_plain _ 97 (by decide) (by decide) (by decide), scanC_nil]; rfl, fun e => by rw [scanC_plain d c c92 c40 c41, scanC_plain (d + e) c c92 c40 c41, scanC_nil, scanC_nil]⟩
  | c :: x :: r, d, hd => by
    by_cases c92 : c = 92
    · subst c92
      rcases split_all r d hd with ⟨t, n, e1, e2, e3, e4⟩ | ⟨e1, e2, e3⟩
      · refine .inl ⟨x :: t, n + 2, by rw [scanC_esc, e1], by simp; omega, fun m => by rw [List.cons_append, List.cons_append, scanC_esc, e3], fun e he => ?_⟩
        rw [scanC_esc, e4 e he]
        simp only [List.drop_succ_cons, List.cons_append]
        rw [show n + 2 + (scanC e (List.drop n r)).2 = n + (scanC e (List.drop n r)).2 + 2 by omega]
      · refine .inr ⟨by rw [scanC_esc]; simp [e1], by rw [List.cons_append, List.cons_append, scanC_esc]; simp [e2], fun e => by rw [scanC_esc, scanC_esc, e3]⟩
    · have key : ∀ d', (∀ m, scanC d (c :: m) = (c :: (scanC d' m).1, (scanC d' m).2 + 1)) → (∀ e m, scanC (d + e) (c :: m) = (c :: (scanC (d' + e) m).1, (scanC (d' + e) m).2 + 1)) → 1 ≤ d' → Split d (c :: x :: r) := by
        intro d' k1 k2 hd'
        rcases split_all (x :: r) d' hd' with ⟨t, n, e1, e2, e3, e4⟩ | ⟨e1, e2, e3⟩
        · refine .inl ⟨c :: t, n + 1, by rw [k1, e1], by simp at e2 ⊢; omega, fun m => by rw [List.cons_append, k1, e3], fun e he => ?_⟩
          rw [k2, e4 e he]
          simp only [List.drop_succ_cons, List.cons_append]
          rw [show n + 1 + (scanC e (List.drop n (x :: r))).2 = n + (scanC e (List.drop n (x :: r))).2 + 1 by omega]
        · refine .inr ⟨by rw [k1]; simp [e1], by rw [List.cons_append, k1]; simp only [e2, List.length_cons], fun e => by rw [k1, k2, e3]⟩
      by_cases c40 : c = 40
      · subst c40
        exact key (d + 1) (fun m => scanC_open d m) (fun e m => by rw [scanC_open, show d + e + 1 = d + 1 + e by omega]) (by omega)
      · by_cases c41 : c = 41
        · subst c41
          by_cases h1 : d = 1
          · subst h1
            refine .inl ⟨[], 1, scanC_close _, by simp, fun m => by rw [List.cons_append, scanC_close], fun e he => ?_⟩
            rw [scanC_shut (1 + e) (by omega), Nat.add_sub_cancel_left]
            simp only [List.nil_append, List.drop_succ_cons, List.drop_zero]
            rw [Nat.add_comm]
          · exact key (d - 1) (fun m => scanC_shut d h1 m) (fun e m => by rw [scanC_shut (d + e) (by omega), show d + e - 1 = d - 1 + e by omega]) (by omega)
        · exact key d (fun m => scanC_plain d c c92 c40 c41 m) (fun e m => scanC_plain (d + e) c c92 c40 c41 m) hd

/-- The nested comment never closes. -/
theorem nested_open (r : List UInt8) (h : (scanC 1 (r ++ [97])).2 ≠ (scanC 1 r).2) : scanC 1 (40 :: r) = (40 :: (scanC 1 r).1, r.length + 1) := by
  rcases split_all r 1 (Nat.le_refl _) with ⟨t, n, e1, _, e3, _⟩ | ⟨e1, _, e3⟩
  · rw [e3, e1] at h
    exact absurd rfl h
  · rw [scanC_open, e3 1, e1]

/-- It closes. -/
theorem nested_shut (r : List UInt8) (h : (scanC 1 (r ++ [97])).2 = (scanC 1 r).2) : (scanC 1 r).2 ≤ r.length ∧
    scanC 1 (40 :: r) = (40 :: ((scanC 1 r).1 ++ 41 :: (scanC 1 (r.drop (scanC 1 r).2)).1), 1 + (scanC 1 r).2 + (scanC 1 (r.drop (scanC 1 r).2)).2) := by
  rcases split_all r 1 (Nat.le_refl _) with ⟨t, n, e1, e2, _, e4⟩ | ⟨e1, e2, _⟩
  · refine ⟨by rw [e1]; exact e2, ?_⟩
    rw [scanC_open, e4 1 (Nat.le_refl _), e1]
    simp only [Prod.mk.injEq, true_and]
    omega
  · rw [e1, e2] at h
    omega

/-- Both scanners take no more than there is. -/
theorem scanC_le : ∀ (l : List UInt8) (d : Nat), (scanC d l).1.length ≤ l.length ∧ (scanC d l).2 ≤ l.length
  | [], d => by rw [scanC_nil]; simp
  | [c], d => by
    by_cases c92 : c = 92
    · subst c92; rw [scanC_esc_end]; simp
    · by_cases c40 : c = 40
      · subst c40; rw [scanC_open, scanC_nil]; simp
      · by_cases c41 : c = 41
        · subst c41
          by_cases h1 : d = 1
          · subst h1; rw [scanC_close]; simp
          · rw [scanC_shut d h1, scanC_nil]; simp
        · rw [scanC_plain d c c92 c40 c41, scanC_nil]; simp
  | c :: x :: r, d => by
    by_cases c92 : c = 92
    · subst c92
      have := scanC_le r d
      rw [scanC_esc]; simp; omega
    · by_cases c40 : c = 40
      · subst c40
        have := scanC_le (x :: r) (d + 1)
        rw [scanC_open]; simp at *; omega
      · by_cases c41 : c = 41
        · subst c41
          by_cases h1 : d = 1
          · subst h1; rw [scanC_close]; simp
          · have := scanC_le (x :: r) (d - 1)
            rw [scanC_shut d h1]; simp at *; omega
        · have := scanC_le (x :: r) d
          rw [scanC_plain d c c92 c40 c41]; simp at *; omega

/-- b1BalancedPlain as a plain function. -/
def bal : Nat → List UInt8 → Bool
  | d, [] => d == 0
  | d, c :: r => if c = 92 then false else if c = 40 then bal (d + 1) r else if c = 41 then (if d = 0 then false else bal (d - 1) r) else bal d r

theorem bal_scan : ∀ (t rest : List UInt8) (d : Nat), bal d t = true → scanC (d + 1) (t ++ 41 :: rest) = (t, t.length + 1)
  | [], rest, d, h => by
    have : d = 0 := by simpa [bal] using h
    subst this
    exact scanC_close rest
  | c :: t, rest, d, h => by
    rw [bal] at h
    rw [List.cons_append]
    by_cases c92 : c = 92
    · simp [c92] at h
    · by_cases c40 : c = 40
      · subst c40
        simp only [if_neg c92, if_true] at h
        rw [scanC_open, bal_scan t rest (d + 1) h]
        rfl
      · by_cases c41 : c = 41
        · subst c41
          by_cases h0 : d = 0
          · simp [h0] at h
          · simp only [if_neg c92, if_neg c40, if_true, if_neg h0] at h
            have := bal_scan t rest (d - 1) h
            rw [show d - 1 + 1 = d by omega] at this
            rw [scanC_shut (d + 1) (by omega), Nat.add_sub_cancel, this]
            rfl
        · simp only [if_neg c92, if_neg c40, if_neg c41] at h
          rw [scanC_plain (d + 1) c c92 c40 c41, bal_scan t rest d h]
          rfl

/-- What b1EscapeThenClose writes for each byte. -/
def esc (x y : UInt8) : List UInt8 → List UInt8
  | [] => []
  | c :: r => if c = 92 ∨ c = x ∨ c = y then 92 :: c :: esc x y r else c :: esc x y r

theorem esc_scanC : ∀ (t rest : List UInt8), scanC 1 (esc 40 41 t ++ 41 :: rest) = (t, (esc 40 41 t).length + 1)
  | [], rest => scanC_close rest
  | c :: t, rest => by
    rw [esc]
    by_cases h : c = 92 ∨ c = 40 ∨ c = 41
    · rw [if_pos h, List.cons_append, List.cons_append, scanC_esc, esc_scanC t rest]
      rfl
    · simp only [not_or] at h
      rw [if_neg (by simp [h]), List.cons_append, scanC_plain 1 c h.1 h.2.1 h.2.2, esc_scanC t rest]
      rfl

theorem esc_scanQ : ∀ (t rest : List UInt8), scanQ (esc 34 34 t ++ 34 :: rest) = (t, (esc 34 34 t).length + 1)
  | [], rest => scanQ_close rest
  | c :: t, rest => by
    rw [esc]
    by_cases h : c = 92 ∨ c = 34 ∨ c = 34
    · rw [if_pos h, List.cons_append, List.cons_append, scanQ_esc, esc_scanQ t rest]
      rfl
    · simp only [not_or] at h
      rw [if_neg (by simp [h]), List.cons_append, scanQ_plain c h.1 h.2.1, esc_scanQ t rest]
      rfl

/-- Off the delimiters the two scanners agree and take all. -/
theorem agree : ∀ (l : List UInt8), (∀ c ∈ l, c ≠ 40 ∧ c ≠ 41 ∧ c ≠ 34) → scanC 1 l = scanQ l ∧ (scanC 1 l).2 = l.length
  | [], _ => by rw [scanC_nil, scanQ_nil]; simp
  | [c], h => by
    obtain ⟨h1, h2, h3⟩ := h c (by simp)
    by_cases c92 : c = 92
    · subst c92; rw [scanC_esc_end, scanQ_esc_end]; simp
    · rw [scanC_plain 1 c c92 h1 h2, scanQ_plain c c92 h3, scanC_nil, scanQ_nil]; simp
  | c :: x :: r, h => by
    obtain ⟨h1, h2, h3⟩ := h c (by simp)
    by_cases c92 : c = 92
    · subst c92
      obtain ⟨e1, e2⟩ := agree r (fun y hy => h y (by simp [hy]))
      rw [scanC_esc, scanQ_esc, e1]
      rw [e1] at e2
      simp [e2]
    · obtain ⟨e1, e2⟩ := agree (x :: r) (fun y hy => h y (List.mem_cons_of_mem _ hy))
      rw [scanC_plain 1 c c92 h1 h2, scanQ_plain c c92 h3, e1]
      rw [e1] at e2
      simp [e2]
end Go.Proofs.Qxb6603932a
