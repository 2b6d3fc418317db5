/-
  The plain law: the forms, the chains, the list. No Go in sight. By an AI agent.
-/
import Derived.Lib.Join
namespace Go.Proofs.Qxb6602891a

/-- '/<name>' -/
def sufL : List UInt8 := [47, 60, 110, 97, 109, 101, 62]

section
variable (nm : Nat → List UInt8) (pr : Nat → Int)

/-- (*kind).form, with fuel. -/
def formF : Nat → Nat → List UInt8
  | 0, _ => []
  | f + 1, i => (if 0 ≤ pr i then formF f (pr i).toNat ++ [47] else []) ++ (nm i ++ sufL)

/-- The chain of parents, from i up. -/
def chainF : Nat → Nat → List Nat
  | 0, _ => []
  | f + 1, i => i :: (if 0 ≤ pr i then chainF f (pr i).toNat else [])

/-- What rfWant's inner loop writes for the chain's members behind the first: each followed by a slash. -/
def wrtS : List Nat → List UInt8
  | [] => []
  | y :: r => wrtS r ++ (nm y ++ sufL ++ [47])

/-- .. for the whole chain. -/
def wrt : List Nat → List UInt8
  | [] => []
  | x :: r => wrtS nm r ++ (nm x ++ sufL)

/-- The separator ahead of form k. -/
def sepL (n k : Nat) : List UInt8 := if k = 0 then [] else if k + 1 = n then [32, 111, 114, 32] else [44, 32]

/-- What rfWant has written behind k rounds. -/
def wantL (F : Nat → List UInt8) (n : Nat) : Nat → List UInt8
  | 0 => []
  | k + 1 => wantL F n k ++ sepL n k ++ F k

variable {nm pr}

theorem formF_top {f i : Nat} (h : pr i < 0) : formF nm pr (f + 1) i = nm i ++ sufL := by
  rw [formF, if_neg (by omega), List.nil_append]

theorem formF_in {f i : Nat} (h : 0 ≤ pr i) : formF nm pr (f + 1) i = formF nm pr f (pr i).toNat ++ [47] ++ (nm i ++ sufL) := by
  rw [formF, if_pos h]

theorem chainF_ne {f i : Nat} : chainF pr (f + 1) i = i :: (if 0 ≤ pr i then chainF pr f (pr i).toNat else []) := by rw [chainF]

/-- The form is what the chain writes. -/
theorem wrt_form : ∀ (f i : Nat), i < f → (∀ j, j ≤ i → pr j < j) → wrt nm (chainF pr f i) = formF nm pr f i ∧ wrtS nm (chainF pr f i) = formF nm pr f i ++ [47]
  | 0, i, h, _ => by omega
  | f + 1, i, h, hp => by
    have key : wrtS nm (if 0 ≤ pr i then chainF pr f (pr i).toNat else []) ++ (nm i ++ sufL) = formF nm pr (f + 1) i := by
      by_cases h0 : 0 ≤ pr i
      · have hlt := hp i (Nat.le_refl _)
        have ih := wrt_form f (pr i).toNat (by omega) (fun j hj => hp j (by omega))
        rw [if_pos h0, ih.2, formF_in h0]
      · rw [if_neg h0, formF_top (by omega)]
        rfl
    constructor
    · rw [chainF_ne, wrt, key]
    · rw [chainF_ne, wrtS, ← key]
      simp only [List.append_assoc]

theorem chainF_length : ∀ (f i : Nat), (chainF pr f i).length ≤ f
  | 0, _ => by simp [chainF]
  | f + 1, i => by
    rw [chainF_ne]
    split
    · have := chainF_length f (pr i).toNat
      simp; omega
    · simp

theorem chainF_le : ∀ (f i : Nat), (∀ j, j ≤ i → pr j < j) → ∀ x ∈ chainF pr f i, x ≤ i
  | 0, _, _, x, hx => by simp [chainF] at hx
  | f + 1, i, hp, x, hx => by
    rw [chainF_ne] at hx
    rcases List.mem_cons.1 hx with rfl | hx
    · exact Nat.le_refl _
    · by_cases h0 : 0 ≤ pr i
      · rw [if_pos h0] at hx
        have hlt := hp i (Nat.le_refl _)
        have := chainF_le f (pr i).toNat (fun j hj => hp j (by omega)) x hx
        omega
      · rw [if_neg h0] at hx
        simp at hx

theorem formF_length (B : Nat) : ∀ (f i : Nat), i < f → (∀ j, j ≤ i → pr j < j) → (∀ j, j ≤ i → (nm j).length ≤ B) → (formF nm pr f i).length ≤ (i + 1) * (B + 8)
  | 0, i, h, _, _ => by omega
  | f + 1, i, h, hp, hb => by
    have hi := hb i (Nat.le_refl _)
    have hs : sufL.length = 7 := rfl
    by_cases h0 : 0 ≤ pr i
    · have hlt := hp i (Nat.le_refl _)
      have ih := formF_length B f (pr i).toNat (by omega) (fun j hj => hp j (by omega)) (fun j hj => hb j (by omega))
      have hm : ((pr i).toNat + 1) * (B + 8) ≤ i * (B + 8) := Nat.mul_le_mul_right _ (by omega)
      rw [formF_in h0]
      simp only [List.length_append, List.length_cons, List.length_nil, hs]
      rw [Nat.add_mul]
      omega
    · rw [formF_top (by omega)]
      simp only [List.length_append, hs]
      rw [Nat.add_mul]
      omega

theorem join_snoc (sep y : List UInt8) : ∀ (xs : List (List UInt8)), xs ≠ [] → Lib.join (xs ++ [y]) sep = Lib.join xs sep ++ sep ++ y
  | [], h => absurd rfl h
  | x :: r, _ => by
    rw [List.cons_append, Lib.join_cons, Lib.join_cons]
    simp [Lib.joinTail]

theorem want_join (F : Nat → List UInt8) (n : Nat) : ∀ k, k < n → wantL F n k = Lib.join ((List.range k).map F) [44, 32]
  | 0, _ => rfl
  | 1, h => by
    rw [wantL, wantL, sepL, if_pos rfl]
    simp [List.range_succ, Lib.join_one]
  | k + 2, h => by
    have e : List.range (k + 2) = List.range (k + 1) ++ [k + 1] := List.range_succ
    have hne : (List.range (k + 1)).map F ≠ [] := by
      intro h0
      have := congrArg List.length h0
      simp at this
    rw [wantL, want_join F n (k + 1) (by omega), sepL, if_neg (by omega), if_neg (by omega), e, List.map_append, List.map_singleton, join_snoc _ _ _ hne]

/-- refForms of n ≥ 2 kinds. -/
theorem want_all (F : Nat → List UInt8) (k : Nat) : wantL F (k + 2) (k + 2) = Lib.join ((List.range (k + 1)).map F) [44, 32] ++ [32, 111, 114, 32] ++ F (k + 1) := by
  rw [wantL, want_join F (k + 2) (k + 1) (by omega), sepL, if_neg (by omega), if_pos rfl]

theorem want_one (F : Nat → List UInt8) : wantL F 1 1 = F 0 := by
  rw [wantL, wantL, sepL, if_pos rfl]
  rfl

theorem want_length (F : Nat → List UInt8) (n C : Nat) : ∀ k, (∀ j, j < k → (F j).length ≤ C) → (wantL F n k).length ≤ k * (C + 4)
  | 0, _ => by simp [wantL]
  | k + 1, h => by
    have ih := want_length F n C k (fun j hj => h j (by omega))
    have hk := h k (by omega)
    have hs : (sepL n k).length ≤ 4 := by
      unfold sepL
      split
      · simp
      · split <;> simp
    rw [wantL, List.length_append, List.length_append, Nat.add_mul]
    omega
end
end Go.Proofs.Qxb6602891a
