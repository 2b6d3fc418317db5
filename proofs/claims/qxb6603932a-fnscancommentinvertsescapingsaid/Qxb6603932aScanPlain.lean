/-
  The two scanners as plain functions on lists of bytes. By an AI agent.
-/
import Derived.Test.Qxb6603932aBuilder
namespace Go.Proofs.Qxb6603932a

/-- scanComment at depth d: the text, and how much is taken. 92: backslash; 40, 41: the parentheses. -/
def scanC : Nat → List UInt8 → List UInt8 × Nat
  | _, [] => ([], 0)
  | d, c :: r =>
    if c = 92 then
      match r with
      | [] => ([], 1)
      | x :: r' => (x :: (scanC d r').1, (scanC d r').2 + 2)
    else if c = 40 then (c :: (scanC (d + 1) r).1, (scanC (d + 1) r).2 + 1)
    else if c = 41 then (if d = 1 then ([], 1) else (c :: (scanC (d - 1) r).1, (scanC (d - 1) r).2 + 1))
    else (c :: (scanC d r).1, (scanC d r).2 + 1)

/-- scanQuoted. 34: the quote. -/
def scanQ : List UInt8 → List UInt8 × Nat
  | [] => ([], 0)
  | c :: r =>
    if c = 92 then
      match r with
      | [] => ([], 1)
      | x :: r' => (x :: (scanQ r').1, (scanQ r').2 + 2)
    else if c = 34 then ([], 1)
    else (c :: (scanQ r).1, (scanQ r).2 + 1)

theorem scanC_nil (d : Nat) : scanC d [] = ([], 0) := by unfold scanC; rfl
theorem scanC_esc_end (d : Nat) : scanC d [92] = ([], 1) := by unfold scanC; rfl
theorem scanC_esc (d : Nat) (x : UInt8) (r : List UInt8) : scanC d (92 :: x :: r) = (x :: (scanC d r).1, (scanC d r).2 + 2) := by rw [scanC]; rfl
theorem scanC_open (d : Nat) (r : List UInt8) : scanC d (40 :: r) = (40 :: (scanC (d + 1) r).1, (scanC (d + 1) r).2 + 1) := by rw [scanC.eq_def]; simp
theorem scanC_close (r : List UInt8) : scanC 1 (41 :: r) = ([], 1) := by rw [scanC.eq_def]; simp
theorem scanC_shut (d : Nat) (hd : d ≠ 1) (r : List UInt8) : scanC d (41 :: r) = (41 :: (scanC (d - 1) r).1, (scanC (d - 1) r).2 + 1) := by rw [scanC.eq_def]; simp [hd]
theorem scanC_plain (d : Nat) (c : UInt8) (h1 : c ≠ 92) (h2 : c ≠ 40) (h3 : c ≠ 41) (r : List UInt8) : scanC d (c :: r) = (c :: (scanC d r).1, (scanC d r).2 + 1) := by rw [scanC.eq_def]; simp [h1, h2, h3]

theorem scanQ_nil : scanQ [] = ([], 0) := by unfold scanQ; rfl
theorem scanQ_esc_end : scanQ [92] = ([], 1) := by unfold scanQ; rfl
theorem scanQ_esc (x : UInt8) (r : List UInt8) : scanQ (92 :: x :: r) = (x :: (scanQ r).1, (scanQ r).2 + 2) := by rw [scanQ]; rfl
theorem scanQ_close (r : List UInt8) : scanQ (34 :: r) = ([], 1) := by rw [scanQ.eq_def]; simp
theorem scanQ_plain (c : UInt8) (h1 : c ≠ 92) (h2 : c ≠ 34) (r : List UInt8) : scanQ (c :: r) = (c :: (scanQ r).1, (scanQ r).2 + 1) := by rw [scanQ.eq_def]; simp [h1, h2]
end Go.Proofs.Qxb6603932a
