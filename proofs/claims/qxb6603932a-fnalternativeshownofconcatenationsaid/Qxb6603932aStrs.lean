/-
  The small functions over a slice of strings: b1Holds (23), the length guards (19, 24) and b1TextBytes (20): contracts. By an AI agent.
-/
import Derived.Test.Qxb6603932aRows
import Derived.WalkKit
import Derived.ProofKit
namespace Go.Proofs.Qxb6603932a
open Go.ChangeShapes Go.WideShapes Go.ChangeAt Go.RowKit

/-- The slice value '.slice a0 len _' holds the strings of ss: cell j, for every j < len. -/
def StrsAt (w : World) (a0 : Option Addr) (len : Nat) (ss : List ByteArray) : Prop :=
  len ≤ ss.length ∧ ∀ j, j < len → ∃ b off, a0 = some ⟨b, off, none⟩ ∧ b < w.heap.size ∧ w.cell? ⟨b, off + j, none⟩ = some (.string (ss.getD j ByteArray.empty)) ∧ (ss.getD j ByteArray.empty).size ≤ maxLen

/-- It still does in a world that grew. -/
theorem StrsAt.below {w w' : World} {a0 : Option Addr} {len : Nat} {ss : List ByteArray} (h : StrsAt w a0 len ss) {B : Nat} (hb : Below B w w') (hB : w.heap.size ≤ B) : StrsAt w' a0 len ss := by
  refine ⟨h.1, fun j hj => ?_⟩
  obtain ⟨b, off, e, hlt, hc, hs⟩ := h.2 j hj
  exact ⟨b, off, e, Nat.lt_of_lt_of_le hlt hb.size, by rw [hb.cell (p := ⟨b, off + j, none⟩) (Nat.lt_of_lt_of_le hlt hB)]; exact hc, hs⟩

/-- Its first strings. -/
theorem StrsAt.take {w : World} {a0 : Option Addr} {len : Nat} {ss : List ByteArray} (h : StrsAt w a0 len ss) {n : Nat} (hn : n ≤ len) : StrsAt w a0 n ss :=
  ⟨Nat.le_trans hn h.1, fun j hj => h.2 j (by omega)⟩

/-- Is 'want' among the first n strings? (as lists of bytes) -/
def holdsB (ss : List ByteArray) (n : Nat) (want : ByteArray) : Bool := ((ss.map (·.toList)).take n).contains want.toList

theorem holdsB_iff {ss : List ByteArray} {n : Nat} {want : ByteArray} : holdsB ss n want = true ↔ want.toList ∈ (ss.map (·.toList)).take n := by
  unfold holdsB
  exact List.contains_iff_mem

theorem holdsB_not {ss : List ByteArray} {n : Nat} {want : ByteArray} : holdsB ss n want = false ↔ want.toList ∉ (ss.map (·.toList)).take n := by
  rw [← holdsB_iff, Bool.not_eq_true]

theorem map_at {ss : List ByteArray} {k : Nat} (hk : k < ss.length) : (ss.map (·.toList))[k]? = some (ss[k]?.getD ByteArray.empty).toList := by
  simp [hk]

theorem holdsB_succ_miss {ss : List ByteArray} {k : Nat} {want : ByteArray} (hk : k < ss.length) (h : holdsB ss k want = false) (hne : ((ss[k]?.getD ByteArray.empty).toList == want.toList) = false) : holdsB ss (k + 1) want = false := by
  rw [holdsB_not] at *
  rw [List.take_add_one, map_at hk]
  simp only [Option.toList_some, List.mem_append, List.mem_singleton]
  rintro (h1 | h1)
  · exact h h1
  · rw [h1] at hne
    simp at hne

theorem holdsB_hit {ss : List ByteArray} {k n : Nat} {want : ByteArray} (hk : k < n) (hn : n ≤ ss.length) (he : ((ss[k]?.getD ByteArray.empty).toList == want.toList) = true) : holdsB ss n want = true := by
  rw [holdsB_iff]
  have e : (ss[k]?.getD ByteArray.empty).toList = want.toList := eq_of_beq he
  refine List.mem_of_getElem? (i := k) ?_
  rw [List.getElem?_take, if_pos hk, map_at (by omega), e]

set_option maxHeartbeats 400000 in
theorem holds_any (a0 : Option Addr) (len cap : Nat) (ss : List ByteArray) (want : ByteArray) (w : World) (hl : len ≤ 1048576) (hS : StrsAt w a0 len ss) :
    Calls Try.prog 23 #[.slice a0 len cap, .string want] w fun e w' => e = .returned (.bool (holdsB ss len want)) ∧ w' = w := by
  obtain ⟨hls, hcell⟩ := hS
  go_enter Try.func23, Try.ntmps23
  go_wp2
  go_loop [5] (fun i => ∃ k : Nat, k ≤ len ∧ i = .int .i64 k ∧ holdsB ss k want = false) (fun i => len - (intOf i).toNat)
  case atStart => exact ⟨0, Nat.zero_le _, rfl, rfl⟩
  case round =>
    obtain ⟨k, hk, rfl, hno⟩ := hrel
    have HN : Hid (holdsB ss k want = false) := hno
    clear hno
    by_cases hlt : k < len
    · obtain ⟨b, off, rfl, hb, hc, hs⟩ := hcell k hlt
      clear hcell
      go_wp2
      · go_ret
        exact ⟨by rw [holdsB_hit hlt hls (by assumption)]; rfl, rfl⟩
      · go_round
        case rel => exact ⟨k + 1, by omega, by go_num, holdsB_succ_miss (by omega) HN.out (by assumption)⟩
        case measure => simp [intOf]; omega
    · clear hcell
      go_wp2
      go_ret
      have : k = len := by omega
      subst this
      exact ⟨by rw [HN.out]; rfl, rfl⟩

set_option maxHeartbeats 400000 in
/-- zzBytes of one slice of strings: some bool; memory as it was. -/
theorem zzOne_any (a0 : Option Addr) (len cap : Nat) (ss : List ByteArray) (w : World) (hl : len ≤ maxLen) (hS : StrsAt w a0 len ss) :
    Calls Try.prog 19 #[.slice a0 len cap] w fun e w' => ∃ r, e = .returned (.bool r) ∧ w' = w := by
  obtain ⟨hls, hcell⟩ := hS
  unfold maxLen at hl
  by_cases hbig : 1048576 < len
  · go_enter Try.func19, Try.ntmps19
    go_wp2
    go_ret
    first | exact ⟨_, rfl, rfl⟩ | exact ⟨.inl rfl, rfl⟩ | exact ⟨.inr rfl, rfl⟩
  · go_enter Try.func19, Try.ntmps19
    go_wp2
    go_loop [3, 4] (fun n i => ∃ k : Nat, k ≤ len ∧ i = .int .i64 k ∧ ∃ m : Nat, m ≤ 1048576 ∧ n = .int .i64 m) (fun _ i => len - (intOf i).toNat)
    case atStart => exact ⟨0, Nat.zero_le _, rfl, len, by omega, rfl⟩
    case round =>
      obtain ⟨k, hk, rfl, m, hm, rfl⟩ := hrel
      by_cases hlt : k < len
      · obtain ⟨b, off, rfl, hb, hc, hs⟩ := hcell k hlt
        clear hcell
        unfold maxLen at hs
        obtain ⟨s, Hs⟩ : ∃ s, Hid (s = ss.getD k ByteArray.empty) := ⟨_, rfl⟩
        rw [← Hs.out] at hc hs
        by_cases hsb : 1048576 < s.size
        · go_wp2
          go_ret
          first | exact ⟨_, rfl, rfl⟩ | exact ⟨.inl rfl, rfl⟩ | exact ⟨.inr rfl, rfl⟩
        · by_cases hsum : 1048576 < m + s.size
          · go_wp2
            go_ret
            first | exact ⟨_, rfl, rfl⟩ | exact ⟨.inl rfl, rfl⟩ | exact ⟨.inr rfl, rfl⟩
          · go_wp2
            go_round
            case rel => exact ⟨k + 1, by omega, by go_num, m + s.size, by omega, by go_num⟩
            case measure => simp [intOf]; omega
      · clear hcell
        go_wp2
        go_ret
        first | exact ⟨_, rfl, rfl⟩ | exact ⟨.inl rfl, rfl⟩ | exact ⟨.inr rfl, rfl⟩

set_option maxHeartbeats 400000 in
/-- b1TextBytes: a number that is not negative and not great; memory as it was. -/
theorem textBytes_any (a0 : Option Addr) (len cap : Nat) (ss : List ByteArray) (w : World) (hl : len ≤ maxLen) (hS : StrsAt w a0 len ss) :
    Calls Try.prog 20 #[.slice a0 len cap] w fun e w' => ∃ n : Int, e = .returned (.int .i64 n) ∧ 0 ≤ n ∧ n ≤ 4194304 ∧ w' = w := by
  obtain ⟨hls, hcell⟩ := hS
  unfold maxLen at hl
  by_cases hbig : 65536 < len
  · go_enter Try.func20, Try.ntmps20
    go_wp2
    go_ret
    exact ⟨_, rfl, by omega, by omega, rfl⟩
  · go_enter Try.func20, Try.ntmps20
    go_wp2
    go_loop [3, 4] (fun n i => ∃ k : Nat, k ≤ len ∧ i = .int .i64 k ∧ ∃ m : Nat, m ≤ 2097152 ∧ n = .int .i64 m) (fun _ i => len - (intOf i).toNat)
    case atStart => exact ⟨0, Nat.zero_le _, rfl, 16 * len, by omega, by go_num⟩
    case round =>
      obtain ⟨k, hk, rfl, m, hm, rfl⟩ := hrel
      by_cases hlt : k < len
      · obtain ⟨b, off, rfl, hb, hc, hs⟩ := hcell k hlt
        clear hcell
        unfold maxLen at hs
        obtain ⟨s, Hs⟩ : ∃ s, Hid (s = ss.getD k ByteArray.empty) := ⟨_, rfl⟩
        rw [← Hs.out] at hc hs
        by_cases hn : 1048576 < m
        · go_wp2
          go_ret
          exact ⟨_, rfl, by omega, by omega, rfl⟩
        · by_cases hsb : 1048576 < s.size
          · go_wp2
            go_ret
            exact ⟨_, rfl, by omega, by omega, rfl⟩
          · go_wp2
            go_round
            case rel => exact ⟨k + 1, by omega, by go_num, m + s.size, by omega, by go_num⟩
            case measure => simp [intOf]; omega
      · clear hcell
        go_wp2
        go_ret
        exact ⟨_, rfl, by omega, by omega, rfl⟩
end Go.Proofs.Qxb6603932a
