/-
  Slices of strings and of ints in memory; the guard (16), rfParent (26) and the two clones (18, 19): contracts. By an AI agent.
-/
import Derived.Test.Qxb6602891aRows
import Derived.WalkKit
import Derived.ProofKit
import Derived.Deep.OwnRows
namespace Go.Proofs.Qxb6602891a
open Go.ChangeShapes Go.WideShapes Go.ChangeAt Go.RowKit
set_option linter.unusedVariables false

theorem hide {p : Prop} (h : p) : Hid p := h

/-- The slice value '.slice a0 len _' holds the strings of ss: cell j, for every j < len. -/
def StrsAt (w : World) (a0 : Option Addr) (len : Nat) (ss : List ByteArray) : Prop :=
  len ≤ ss.length ∧ ∀ j, j < len → ∃ b off, a0 = some ⟨b, off, none⟩ ∧ b < w.heap.size ∧ w.cell? ⟨b, off + j, none⟩ = some (.string (ss.getD j ByteArray.empty)) ∧ (ss.getD j ByteArray.empty).size ≤ maxLen

theorem StrsAt.below {w w' : World} {a0 : Option Addr} {len : Nat} {ss : List ByteArray} (h : StrsAt w a0 len ss) {B : Nat} (hb : Below B w w') (hB : w.heap.size ≤ B) : StrsAt w' a0 len ss := by
  refine ⟨h.1, fun j hj => ?_⟩
  obtain ⟨b, off, e, hlt, hc, hs⟩ := h.2 j hj
  exact ⟨b, off, e, Nat.lt_of_lt_of_le hlt hb.size, by rw [hb.cell (p := ⟨b, off + j, none⟩) (Nat.lt_of_lt_of_le hlt hB)]; exact hc, hs⟩

/-- The same for ints. -/
def IntsAt (w : World) (a0 : Option Addr) (len : Nat) (ps : List Int) : Prop :=
  len ≤ ps.length ∧ ∀ j, j < len → ∃ b off, a0 = some ⟨b, off, none⟩ ∧ b < w.heap.size ∧ w.cell? ⟨b, off + j, none⟩ = some (.int .i64 (ps.getD j 0)) ∧ -9223372036854775808 ≤ ps.getD j 0 ∧ ps.getD j 0 ≤ 9223372036854775807

theorem IntsAt.below {w w' : World} {a0 : Option Addr} {len : Nat} {ps : List Int} (h : IntsAt w a0 len ps) {B : Nat} (hb : Below B w w') (hB : w.heap.size ≤ B) : IntsAt w' a0 len ps := by
  refine ⟨h.1, fun j hj => ?_⟩
  obtain ⟨b, off, e, hlt, hc, hs⟩ := h.2 j hj
  exact ⟨b, off, e, Nat.lt_of_lt_of_le hlt hb.size, by rw [hb.cell (p := ⟨b, off + j, none⟩) (Nat.lt_of_lt_of_le hlt hB)]; exact hc, hs⟩

/-- rfParent. -/
def par (ps : List Int) (m i : Nat) : Int := if i < m ∧ 0 ≤ ps.getD i 0 then ps.getD i 0 else -1

theorem par_ge (ps : List Int) (m i : Nat) : -1 ≤ par ps m i := by
  unfold par
  split
  · omega
  · omega

set_option maxHeartbeats 400000 in
theorem parent_any (b0 : Option Addr) (m cm : Nat) (ps : List Int) (i : Nat) (w : World) (hm : m ≤ maxLen) (hi : i ≤ 1048576) (hP : IntsAt w b0 m ps) :
    Calls Try.prog 26 #[.slice b0 m cm, .int .i64 i] w fun e w' => e = .returned (.int .i64 (par ps m i)) ∧ w' = w := by
  unfold maxLen at hm
  by_cases hlt : i < m
  · obtain ⟨b, off, rfl, hb, hc, h1, h2⟩ := hP.2 i hlt
    clear hP
    obtain ⟨p, Hp⟩ : ∃ p, Hid (p = ps.getD i 0) := ⟨_, rfl⟩
    rw [← Hp.out] at hc h1 h2
    by_cases h0 : 0 ≤ p
    · have e : par ps m i = p := by unfold par; rw [← Hp.out, if_pos ⟨hlt, h0⟩]
      rw [e]
      clear e
      go_enter Try.func26, Try.ntmps26
      go_wp2
      go_ret
      exact ⟨rfl, rfl⟩
    · have e : par ps m i = -1 := by unfold par; rw [← Hp.out, if_neg (fun h => h0 h.2)]
      rw [e]
      clear e
      go_enter Try.func26, Try.ntmps26
      go_wp2
      go_ret
      exact ⟨rfl, rfl⟩
  · have e : par ps m i = -1 := by unfold par; rw [if_neg (fun h => hlt h.1)]
    rw [e]
    clear e hP
    go_enter Try.func26, Try.ntmps26
    go_wp2
    go_ret
    exact ⟨rfl, rfl⟩

set_option maxHeartbeats 400000 in
theorem zz16_any (a0 b0 : Option Addr) (len cap m cm : Nat) (ss : List ByteArray) (w : World) (hl : len ≤ maxLen) (hm : m ≤ maxLen) (hS : StrsAt w a0 len ss) :
    Calls Try.prog 16 #[.slice a0 len cap, .slice b0 m cm] w fun e w' => (e = .returned (.bool false) ∨ e = .returned (.bool true)) ∧ w' = w := by
  obtain ⟨hls, hcell⟩ := hS
  unfold maxLen at hl hm
  by_cases hbig : 1048576 < len
  · go_enter Try.func16, Try.ntmps16
    go_wp2
    go_ret
    exact ⟨.inl rfl, rfl⟩
  · go_enter Try.func16, Try.ntmps16
    go_wp2
    go_loop [5, 6] (fun n i => ∃ k : Nat, k ≤ len ∧ i = .int .i64 k ∧ ∃ q : Nat, q ≤ 1048576 ∧ n = .int .i64 q) (fun _ i => len - (intOf i).toNat)
    case atStart => exact ⟨0, Nat.zero_le _, rfl, len, by omega, rfl⟩
    case round =>
      obtain ⟨k, hk, rfl, q, hq, rfl⟩ := hrel
      by_cases hlt : k < len
      · obtain ⟨b, off, rfl, hb, hc, hs⟩ := hcell k hlt
        clear hcell
        unfold maxLen at hs
        obtain ⟨s, Hs⟩ : ∃ s, Hid (s = ss.getD k ByteArray.empty) := ⟨_, rfl⟩
        rw [← Hs.out] at hc hs
        by_cases hsb : 1048576 < s.size
        · go_wp2
          go_ret
          exact ⟨.inl rfl, rfl⟩
        · by_cases hsum : 1048576 < q + s.size
          · go_wp2
            go_ret
            exact ⟨.inl rfl, rfl⟩
          · go_wp2
            go_round
            case rel => exact ⟨k + 1, by omega, by go_num, q + s.size, by omega, by go_num⟩
            case measure => simp [intOf]; omega
      · clear hcell
        by_cases h1 : 1048576 < m
        · go_wp2
          go_ret
          exact ⟨.inl rfl, rfl⟩
        · by_cases h2 : 1048576 < q + m
          · go_wp2
            go_ret
            exact ⟨.inl rfl, rfl⟩
          · go_wp2
            go_ret
            exact ⟨.inr rfl, rfl⟩
end Go.Proofs.Qxb6602891a
