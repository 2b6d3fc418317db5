/-
  rfCloneStrs (18), rfCloneInts (19): contracts. By an AI agent.
-/
import Derived.Test.Qxb6602891aStrs
import Derived.Laws.Cover3
namespace Go.Proofs.Qxb6602891a
open Go.ChangeShapes Go.WideShapes Go.ChangeAt Go.RowKit
set_option linter.unusedVariables false

theorem info9 : (Try.prog.info? 9).map (fun i => (i.zero, i.size, i.bytes)) = some (some (.string ByteArray.empty), 1, 16) := by kernel_rfl
theorem info3 : (Try.prog.info? 3).map (fun i => (i.zero, i.size, i.bytes)) = some (some (.int .i64 0), 1, 8) := by kernel_rfl

/-- n zero cells, kept from the walk. -/
def zeros (z : Value) (n : Nat) : Array Value := madeCells #[z] n

theorem rowIs_zeros (w : World) (z : Value) (n : Nat) (t : TypeId) : (w.alloc (.cells (zeros z n) t)).rowIs w.heap.size t n (fun _ => z) := World.rowIs_made w z n t

theorem make_strs (n : Nat) (h : n ≤ 1048576) (w : World) :
    (Instr.makeSlice 22 (.int .i64 (n : Int)) (.int .i64 (n : Int))).run Try.prog w = .ok (.slice (some ⟨w.heap.size, 0, none⟩) n n) (w.alloc (.cells (zeros (.string ByteArray.empty) n) 9)) :=
  run_make_row' 22 9 (.string ByteArray.empty) 16 Try.underlying22 info9 rfl .i64 .i64 n (by omega) (by omega) w

theorem make_ints (n : Nat) (h : n ≤ 1048576) (w : World) :
    (Instr.makeSlice 38 (.int .i64 (n : Int)) (.int .i64 (n : Int))).run Try.prog w = .ok (.slice (some ⟨w.heap.size, 0, none⟩) n n) (w.alloc (.cells (zeros (.int .i64 0) n) 3)) :=
  run_make_row' 38 3 (.int .i64 0) 8 Try.underlying38 info3 rfl .i64 .i64 n (by omega) (by omega) w

theorem nil_strs (a0 : Option Addr) (len cap : Nat) (W : World) : (binOp .eql 22 (.slice a0 len cap) (.slice none 0 0)).run Try.prog W = .ok (.bool a0.isNone) W := by
  simp [binOp, run_equal_slice_nil W 22 9 a0 len cap Try.underlying22]

theorem nil_ints (a0 : Option Addr) (len cap : Nat) (W : World) : (binOp .eql 38 (.slice a0 len cap) (.slice none 0 0)).run Try.prog W = .ok (.bool a0.isNone) W := by
  simp [binOp, run_equal_slice_nil W 38 3 a0 len cap Try.underlying38]

set_option maxHeartbeats 800000 in
theorem cloneStrs_any (a0 : Option Addr) (len cap : Nat) (ss : List ByteArray) (w : World) (hl : len ≤ 1048576) (hS : StrsAt w a0 len ss) :
    Calls Try.prog 18 #[.slice a0 len cap] w fun e w' => ∃ a1 c1, e = .returned (.slice a1 len c1) ∧ StrsAt w' a1 len ss ∧ Below w.heap.size w w' := by
  cases a0 with
  | none =>
    have h0 : len = 0 := by
      rcases Nat.eq_zero_or_pos len with h | h
      · exact h
      · obtain ⟨b, off, e, _⟩ := hS.2 0 h
        cases e
    subst h0
    clear hS
    have hnil := nil_strs none 0 cap
    go_enter Try.func18, Try.ntmps18
    go_wp2
    go_ret
    exact ⟨_, _, rfl, ⟨by omega, fun j hj => by omega⟩, Below.refl _ _⟩
  | some ad =>
    have hmk := make_strs len hl
    have hnil := nil_strs (some ad) len cap
    have h0 := rowIs_zeros w (.string ByteArray.empty) len 9
    have hbel : Below w.heap.size w (w.alloc (.cells (zeros (.string ByteArray.empty) len) 9)) := (Below.refl _ _).alloc (Nat.le_refl _) _
    go_enter Try.func18, Try.ntmps18
    go_wp2
    clear hmk hnil
    go_loopw [4] (fun i wr => ∃ k : Nat, k ≤ len ∧ i = .int .i64 k ∧ wr.rowIs w.heap.size 9 len (fun j => if j < k then .string (ss.getD j ByteArray.empty) else .string ByteArray.empty) ∧ Below w.heap.size w wr) (fun i _ => len - (intOf i).toNat)
    case atStart => exact ⟨0, Nat.zero_le _, rfl, h0.congr (fun i _ => by simp), hbel⟩
    case round =>
      obtain ⟨k, hk, rfl, hrow, hbw⟩ := hrel
      clear h0 hbel
      by_cases hlt : k < len
      · obtain ⟨b, off, hab, hbl, hc, hs⟩ := hS.2 k hlt
        obtain rfl : ad = ⟨b, off, none⟩ := by simpa using hab
        have hc' : wr.cell? ⟨b, off + k, none⟩ = some (.string (ss.getD k ByteArray.empty)) := by rw [hbw.cell (p := ⟨b, off + k, none⟩) hbl]; exact hc
        have hcell := hrow.cell hlt
        have hfz := hrow.frozen k
        have HR := hide hrow
        clear hc hrow
        obtain ⟨s, Hs⟩ : ∃ s, Hid (s = ss.getD k ByteArray.empty) := ⟨_, rfl⟩
        rw [← Hs.out] at hc' hs
        go_wp2
        go_roundw
        case rel =>
          refine ⟨k + 1, by omega, by go_num, (HR.out.set k (.string s)).congr ?_, hbw.setCell (p := ⟨w.heap.size, k, none⟩) (Nat.le_refl _) _⟩
          intro j _
          by_cases e : j = k
          · subst e
            simp [Hs.out]
          · rw [if_neg e]
            by_cases h : j < k
            · rw [if_pos h, if_pos (by omega)]
            · rw [if_neg h, if_neg (by omega)]
        case measure => simp [intOf]; omega
      · have hkl : k = len := by omega
        subst hkl
        go_wp2
        go_ret
        refine ⟨_, _, rfl, ⟨hS.1, fun j hj => ⟨w.heap.size, 0, rfl, hrow.lt, ?_, ?_⟩⟩, hbw⟩
        · have := hrow.cell hj
          rw [if_pos hj] at this
          rw [Nat.zero_add]
          exact this
        · obtain ⟨_, _, _, _, _, h⟩ := hS.2 j hj
          exact h

set_option maxHeartbeats 800000 in
theorem cloneInts_any (a0 : Option Addr) (len cap : Nat) (ps : List Int) (w : World) (hl : len ≤ 1048576) (hS : IntsAt w a0 len ps) :
    Calls Try.prog 19 #[.slice a0 len cap] w fun e w' => ∃ a1 c1, e = .returned (.slice a1 len c1) ∧ IntsAt w' a1 len ps ∧ Below w.heap.size w w' := by
  cases a0 with
  | none =>
    have h0 : len = 0 := by
      rcases Nat.eq_zero_or_pos len with h | h
      · exact h
      · obtain ⟨b, off, e, _⟩ := hS.2 0 h
        cases e
    subst h0
    clear hS
    have hnil := nil_ints none 0 cap
    go_enter Try.func19, Try.ntmps19
    go_wp2
    go_ret
    exact ⟨_, _, rfl, ⟨by omega, fun j hj => by omega⟩, Below.refl _ _⟩
  | some ad =>
    have hmk := make_ints len hl
    have hnil := nil_ints (some ad) len cap
    have h0 := rowIs_zeros w (.int .i64 0) len 3
    have hbel : Below w.heap.size w (w.alloc (.cells (zeros (.int .i64 0) len) 3)) := (Below.refl _ _).alloc (Nat.le_refl _) _
    go_enter Try.func19, Try.ntmps19
    go_wp2
    clear hmk hnil
    go_loopw [4] (fun i wr => ∃ k : Nat, k ≤ len ∧ i = .int .i64 k ∧ wr.rowIs w.heap.size 3 len (fun j => if j < k then .int .i64 (ps.getD j 0) else .int .i64 0) ∧ Below w.heap.size w wr) (fun i _ => len - (intOf i).toNat)
    case atStart => exact ⟨0, Nat.zero_le _, rfl, h0.congr (fun i _ => by simp), hbel⟩
    case round =>
      obtain ⟨k, hk, rfl, hrow, hbw⟩ := hrel
      clear h0 hbel
      by_cases hlt : k < len
      · obtain ⟨b, off, hab, hbl, hc, hs⟩ := hS.2 k hlt
        obtain rfl : ad = ⟨b, off, none⟩ := by simpa using hab
        have hc' : wr.cell? ⟨b, off + k, none⟩ = some (.int .i64 (ps.getD k 0)) := by rw [hbw.cell (p := ⟨b, off + k, none⟩) hbl]; exact hc
        have hcell := hrow.cell hlt
        have hfz := hrow.frozen k
        have HR := hide hrow
        clear hc hrow
        obtain ⟨s, Hs⟩ : ∃ s, Hid (s = ps.getD k 0) := ⟨_, rfl⟩
        rw [← Hs.out] at hc' hs
        go_wp2
        go_roundw
        case rel =>
          refine ⟨k + 1, by omega, by go_num, (HR.out.set k (.int .i64 s)).congr ?_, hbw.setCell (p := ⟨w.heap.size, k, none⟩) (Nat.le_refl _) _⟩
          intro j _
          by_cases e : j = k
          · subst e
            simp [Hs.out]
          · rw [if_neg e]
            by_cases h : j < k
            · rw [if_pos h, if_pos (by omega)]
            · rw [if_neg h, if_neg (by omega)]
        case measure => simp [intOf]; omega
      · have hkl : k = len := by omega
        subst hkl
        go_wp2
        go_ret
        refine ⟨_, _, rfl, ⟨hS.1, fun j hj => ⟨w.heap.size, 0, rfl, hrow.lt, ?_, ?_⟩⟩, hbw⟩
        · have := hrow.cell hj
          rw [if_pos hj] at this
          rw [Nat.zero_add]
          exact this
        · obtain ⟨_, _, _, _, _, h⟩ := hS.2 j hj
          exact h
end Go.Proofs.Qxb6602891a
