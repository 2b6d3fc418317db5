/-
  scanQuoted (25), scanComment (26) and their exported names (12, 14): contracts. By an AI agent.
-/
import Derived.Test.Qxb6603932aScanPlain
namespace Go.Proofs.Qxb6603932a
open Go.RowKit

/-- What is left from place k on, where there is a byte. -/
theorem drop_byte (s : ByteArray) (k : Nat) (h : k < s.size) : s.data.toList.drop k = s[k] :: s.data.toList.drop (k + 1) := by
  rw [List.drop_eq_getElem_cons (by simpa using h)]; rfl

theorem drop_none (s : ByteArray) (k : Nat) (h : s.size ≤ k) : s.data.toList.drop k = [] :=
  List.drop_eq_nil_of_le (by simpa using h)

theorem byte_eq {c : UInt8} {n : Nat} (h : c.toNat = n) (hn : n < 256) : c = UInt8.ofNat n := by
  apply UInt8.toNat_inj.1
  rw [h, UInt8.toNat_ofNat_of_lt' (by simpa using hn)]

theorem byte_ne {c : UInt8} {n : Nat} (h : ¬ c.toNat = n) (hn : n < 256) : c ≠ UInt8.ofNat n := by
  intro e
  apply h
  rw [e, UInt8.toNat_ofNat_of_lt' (by simpa using hn)]

theorem cells_snoc (acc : List UInt8) (x : UInt8) : Lib.byteCells (acc ++ [x]) = Lib.byteCells acc ++ [.int .u8 x.toNat] := by
  rw [Lib.byteCells_append]; rfl

/-- The loop's relation, its plain part: what is written and what is left make the whole answer. -/
def RelC (s : ByteArray) (k d : Nat) (acc : List UInt8) : Prop :=
  acc ++ (scanC d (s.data.toList.drop k)).1 = (scanC 1 s.data.toList).1 ∧ min k s.size + (scanC d (s.data.toList.drop k)).2 = (scanC 1 s.data.toList).2

theorem relC_start (s : ByteArray) : RelC s 0 1 [] := by simp [RelC]

theorem relC_esc {s : ByteArray} {k d : Nat} {acc : List UInt8} (h : RelC s k d acc) (hk : k + 1 < s.size) (hc : s[k].toNat = 92) : RelC s (k + 2) d (acc ++ [s[k + 1]]) := by
  obtain ⟨h1, h2⟩ := h
  have hc' : s[k] = 92 := byte_eq hc (by decide)
  rw [drop_byte s k (by omega), hc', drop_byte s (k + 1) hk, scanC_esc, show k + 1 + 1 = k + 2 from rfl] at h1 h2
  refine ⟨by rw [← h1]; simp, ?_⟩
  rw [← h2]
  simp only [Nat.min_eq_left (show k ≤ s.size by omega), Nat.min_eq_left (show k + 2 ≤ s.size by omega)]
  omega

theorem relC_esc_end {s : ByteArray} {k d : Nat} {acc : List UInt8} (h : RelC s k d acc) (hk : k < s.size) (hk2 : ¬ k + 1 < s.size) (hc : s[k].toNat = 92) : RelC s (k + 2) d acc := by
  obtain ⟨h1, h2⟩ := h
  have hc' : s[k] = 92 := byte_eq hc (by decide)
  rw [drop_byte s k hk, hc', drop_none s (k + 1) (by omega), scanC_esc_end] at h1 h2
  unfold RelC
  rw [drop_none s (k + 2) (by omega), scanC_nil, ← h1, ← h2]
  refine ⟨rfl, ?_⟩
  simp only [Nat.min_eq_left (show k ≤ s.size by omega), Nat.min_eq_right (show s.size ≤ k + 2 by omega)]
  omega

theorem relC_open {s : ByteArray} {k d : Nat} {acc : List UInt8} (h : RelC s k d acc) (hk : k < s.size) (hc : s[k].toNat = 40) : RelC s (k + 1) (d + 1) (acc ++ [40]) := by
  obtain ⟨h1, h2⟩ := h
  have hc' : s[k] = 40 := byte_eq hc (by decide)
  rw [drop_byte s k hk, hc', scanC_open] at h1 h2
  refine ⟨by rw [← h1]; simp, ?_⟩
  rw [← h2]
  simp only [Nat.min_eq_left (show k ≤ s.size by omega), Nat.min_eq_left (show k + 1 ≤ s.size by omega)]
  omega

theorem relC_shut {s : ByteArray} {k d : Nat} {acc : List UInt8} (h : RelC s k d acc) (hk : k < s.size) (hd : d ≠ 1) (hc : s[k].toNat = 41) : RelC s (k + 1) (d - 1) (acc ++ [41]) := by
  obtain ⟨h1, h2⟩ := h
  have hc' : s[k] = 41 := byte_eq hc (by decide)
  rw [drop_byte s k hk, hc', scanC_shut d hd] at h1 h2
  refine ⟨by rw [← h1]; simp, ?_⟩
  rw [← h2]
  simp only [Nat.min_eq_left (show k ≤ s.size by omega), Nat.min_eq_left (show k + 1 ≤ s.size by omega)]
  omega

theorem relC_plain {s : ByteArray} {k d : Nat} {acc : List UInt8} (h : RelC s k d acc) (hk : k < s.size) (n1 : ¬ s[k].toNat = 92) (n2 : ¬ s[k].toNat = 40) (n3 : ¬ s[k].toNat = 41) : RelC s (k + 1) d (acc ++ [s[k]]) := by
  obtain ⟨h1, h2⟩ := h
  rw [drop_byte s k hk, scanC_plain d _ (byte_ne n1 (by decide)) (byte_ne n2 (by decide)) (byte_ne n3 (by decide))] at h1 h2
  refine ⟨by rw [← h1]; simp, ?_⟩
  rw [← h2]
  simp only [Nat.min_eq_left (show k ≤ s.size by omega), Nat.min_eq_left (show k + 1 ≤ s.size by omega)]
  omega

theorem relC_close {s : ByteArray} {k : Nat} {acc : List UInt8} (h : RelC s k 1 acc) (hk : k < s.size) (hc : s[k].toNat = 41) : acc = (scanC 1 s.data.toList).1 ∧ k + 1 = (scanC 1 s.data.toList).2 := by
  obtain ⟨h1, h2⟩ := h
  have hc' : s[k] = 41 := byte_eq hc (by decide)
  rw [drop_byte s k hk, hc', scanC_close] at h1 h2
  refine ⟨by rw [← h1]; simp, ?_⟩
  rw [← h2]
  simp only [Nat.min_eq_left (show k ≤ s.size by omega)]

theorem relC_end {s : ByteArray} {k d : Nat} {acc : List UInt8} (h : RelC s k d acc) (hk : ¬ k < s.size) : acc = (scanC 1 s.data.toList).1 ∧ s.size = (scanC 1 s.data.toList).2 := by
  obtain ⟨h1, h2⟩ := h
  rw [drop_none s k (by omega), scanC_nil] at h1 h2
  refine ⟨by rw [← h1]; simp, ?_⟩
  rw [← h2]
  simp only [Nat.min_eq_right (show s.size ≤ k by omega)]
  omega

set_option maxHeartbeats 1000000 in
theorem scanComment_any (s : ByteArray) (w : World) (hs : s.size ≤ 4194304) :
    Calls Try.prog 26 #[.string s] w fun e w' => e = .returned (.tuple #[.string ⟨(scanC 1 s.data.toList).1.toArray⟩, .int .i64 (scanC 1 s.data.toList).2]) ∧ Below w.heap.size w w' := by
  go_enter Try.func26, Try.ntmps26
  go_wp2
  go_loopw [5, 6] (fun dv iv wr => ∃ (k d : Nat) (acc : List UInt8), k ≤ s.size + 1 ∧ iv = .int .i64 k ∧ dv = .int .i64 d ∧ 1 ≤ d ∧ d ≤ k + 1 ∧ acc.length ≤ k ∧ Lib.IsBuilder 40 5 w.heap.size w.heap.size (Lib.byteCells acc) wr ∧ Below w.heap.size w wr ∧
      RelC s k d acc) (fun _ iv _ => s.size + 2 - (intOf iv).toNat)
  case atStart => exact ⟨0, 1, [], by omega, rfl, rfl, by omega, by omega, by simp, Lib.fresh_isBuilder 40 5 w, (Below.refl _ w).alloc (Nat.le_refl _) _, relC_start s⟩
  case round =>
    obtain ⟨k, d, acc, hk, rfl, rfl, hd1, hd2, hal, hI, hbw, HR⟩ := hrel
    have hBw := hbw.size
    have hwl : (Lib.byteCells acc).length + 1 ≤ 140737488355328 := by rw [Lib.byteCells_length]; omega
    by_cases hlt : k < s.size
    · by_cases c92 : s[k].toNat = 92
      · by_cases hlt2 : k + 1 < s.size
        · have HN := relC_esc HR hlt2 c92
          clear HR
          go_wp2_with fail
          refine (builder_WriteByte w.heap.size w.heap.size _ _ _ hI hwl hBw).mono ?_
          rintro e w1 ⟨rfl, hI1, hb1⟩
          go_wp2
          go_roundw
          case rel => exact ⟨k + 2, d, acc ++ [s[k + 1]], by omega, by go_num, rfl, by omega, by omega, by simp; omega, by rw [cells_snoc]; exact .inr hI1, hbw.trans hb1, HN⟩
          case measure => simp [intOf]; omega
        · have HN := relC_esc_end HR hlt hlt2 c92
          clear HR
          go_wp2
          go_roundw
          case rel => exact ⟨k + 2, d, acc, by omega, by go_num, rfl, by omega, by omega, by omega, hI, hbw, HN⟩
          case measure => simp [intOf]; omega
      · by_cases c40 : s[k].toNat = 40
        · have HN := relC_open HR hlt c40
          clear HR
          go_wp2_with fail
          refine (builder_WriteByte w.heap.size w.heap.size _ _ _ hI hwl hBw).mono ?_
          rintro e w1 ⟨rfl, hI1, hb1⟩
          go_wp2
          go_roundw
          case rel => exact ⟨k + 1, d + 1, acc ++ [40], by omega, by go_num, by go_num, by omega, by omega, by simp; omega, by rw [cells_snoc]; exact .inr hI1, hbw.trans hb1, HN⟩
          case measure => simp [intOf]; omega
        · by_cases c41 : s[k].toNat = 41
          · by_cases hd : d = 1
            · subst hd
              obtain ⟨f1, f2⟩ := relC_close HR hlt c41
              have F := And.intro f1 f2
              have HF : Hid (acc = (scanC 1 s.data.toList).1 ∧ k + 1 = (scanC 1 s.data.toList).2) := F
              clear HR f1 f2 F
              go_wp2_with fail
              refine (builder_String w.heap.size w.heap.size acc _ hI hBw).mono ?_
              rintro e w1 ⟨rfl, hb1⟩
              go_wp2
              go_ret2
              refine ⟨?_, hbw.trans hb1⟩
              rw [← HF.out.1, ← HF.out.2]
              rfl
            · have HN := relC_shut HR hlt hd c41
              clear HR
              go_wp2_with fail
              refine (builder_WriteByte w.heap.size w.heap.size _ _ _ hI hwl hBw).mono ?_
              rintro e w1 ⟨rfl, hI1, hb1⟩
              go_wp2
              go_roundw
              case rel => exact ⟨k + 1, d - 1, acc ++ [41], by omega, by go_num, by go_num, by omega, by omega, by simp; omega, by rw [cells_snoc]; exact .inr hI1, hbw.trans hb1, HN⟩
              case measure => simp [intOf]; omega
          · have HN := relC_plain HR hlt c92 c40 c41
            clear HR
            go_wp2_with fail
            refine (builder_WriteByte w.heap.size w.heap.size _ _ _ hI hwl hBw).mono ?_
            rintro e w1 ⟨rfl, hI1, hb1⟩
            go_wp2
            go_roundw
            case rel => exact ⟨k + 1, d, acc ++ [s[k]], by omega, by go_num, rfl, by omega, by omega, by simp; omega, by rw [cells_snoc]; exact .inr hI1, hbw.trans hb1, HN⟩
            case measure => simp [intOf]; omega
    · have HF : Hid (acc = (scanC 1 s.data.toList).1 ∧ s.size = (scanC 1 s.data.toList).2) := relC_end HR hlt
      clear HR
      go_wp2_with fail
      refine (builder_String w.heap.size w.heap.size acc _ hI hBw).mono ?_
      rintro e w1 ⟨rfl, hb1⟩
      go_wp2
      go_ret2
      refine ⟨?_, hbw.trans hb1⟩
      rw [← HF.out.1, ← HF.out.2]
      rfl

/-- The same for scanQuoted. -/
def RelQ (s : ByteArray) (k : Nat) (acc : List UInt8) : Prop :=
  acc ++ (scanQ (s.data.toList.drop k)).1 = (scanQ s.data.toList).1 ∧ min k s.size + (scanQ (s.data.toList.drop k)).2 = (scanQ s.data.toList).2

theorem relQ_start (s : ByteArray) : RelQ s 0 [] := by simp [RelQ]

theorem relQ_esc {s : ByteArray} {k : Nat} {acc : List UInt8} (h : RelQ s k acc) (hk : k + 1 < s.size) (hc : s[k].toNat = 92) : RelQ s (k + 2) (acc ++ [s[k + 1]]) := by
  obtain ⟨h1, h2⟩ := h
  have hc' : s[k] = 92 := byte_eq hc (by decide)
  rw [drop_byte s k (by omega), hc', drop_byte s (k + 1) hk, scanQ_esc, show k + 1 + 1 = k + 2 from rfl] at h1 h2
  refine ⟨by rw [← h1]; simp, ?_⟩
  rw [← h2]
  simp only [Nat.min_eq_left (show k ≤ s.size by omega), Nat.min_eq_left (show k + 2 ≤ s.size by omega)]
  omega

theorem relQ_esc_end {s : ByteArray} {k : Nat} {acc : List UInt8} (h : RelQ s k acc) (hk : k < s.size) (hk2 : ¬ k + 1 < s.size) (hc : s[k].toNat = 92) : RelQ s (k + 2) acc := by
  obtain ⟨h1, h2⟩ := h
  have hc' : s[k] = 92 := byte_eq hc (by decide)
  rw [drop_byte s k hk, hc', drop_none s (k + 1) (by omega), scanQ_esc_end] at h1 h2
  unfold RelQ
  rw [drop_none s (k + 2) (by omega), scanQ_nil, ← h1, ← h2]
  refine ⟨rfl, ?_⟩
  simp only [Nat.min_eq_left (show k ≤ s.size by omega), Nat.min_eq_right (show s.size ≤ k + 2 by omega)]
  omega

theorem relQ_plain {s : ByteArray} {k : Nat} {acc : List UInt8} (h : RelQ s k acc) (hk : k < s.size) (n1 : ¬ s[k].toNat = 92) (n2 : ¬ s[k].toNat = 34) : RelQ s (k + 1) (acc ++ [s[k]]) := by
  obtain ⟨h1, h2⟩ := h
  rw [drop_byte s k hk, scanQ_plain _ (byte_ne n1 (by decide)) (byte_ne n2 (by decide))] at h1 h2
  refine ⟨by rw [← h1]; simp, ?_⟩
  rw [← h2]
  simp only [Nat.min_eq_left (show k ≤ s.size by omega), Nat.min_eq_left (show k + 1 ≤ s.size by omega)]
  omega

theorem relQ_close {s : ByteArray} {k : Nat} {acc : List UInt8} (h : RelQ s k acc) (hk : k < s.size) (hc : s[k].toNat = 34) : acc = (scanQ s.data.toList).1 ∧ k + 1 = (scanQ s.data.toList).2 := by
  obtain ⟨h1, h2⟩ := h
  have hc' : s[k] = 34 := byte_eq hc (by decide)
  rw [drop_byte s k hk, hc', scanQ_close] at h1 h2
  refine ⟨by rw [← h1]; simp, ?_⟩
  rw [← h2]
  simp only [Nat.min_eq_left (show k ≤ s.size by omega)]

theorem relQ_end {s : ByteArray} {k : Nat} {acc : List UInt8} (h : RelQ s k acc) (hk : ¬ k < s.size) : acc = (scanQ s.data.toList).1 ∧ s.size = (scanQ s.data.toList).2 := by
  obtain ⟨h1, h2⟩ := h
  rw [drop_none s k (by omega), scanQ_nil] at h1 h2
  refine ⟨by rw [← h1]; simp, ?_⟩
  rw [← h2]
  simp only [Nat.min_eq_right (show s.size ≤ k by omega)]
  omega

set_option maxHeartbeats 1000000 in
theorem scanQuoted_any (s : ByteArray) (w : World) (hs : s.size ≤ 4194304) :
    Calls Try.prog 25 #[.string s] w fun e w' => e = .returned (.tuple #[.string ⟨(scanQ s.data.toList).1.toArray⟩, .int .i64 (scanQ s.data.toList).2]) ∧ Below w.heap.size w w' := by
  go_enter Try.func25, Try.ntmps25
  go_wp2
  go_loopw [5] (fun iv wr => ∃ (k : Nat) (acc : List UInt8), k ≤ s.size + 1 ∧ iv = .int .i64 k ∧ acc.length ≤ k ∧ Lib.IsBuilder 40 5 w.heap.size w.heap.size (Lib.byteCells acc) wr ∧ Below w.heap.size w wr ∧
      RelQ s k acc) (fun iv _ => s.size + 2 - (intOf iv).toNat)
  case atStart => exact ⟨0, [], by omega, rfl, by simp, Lib.fresh_isBuilder 40 5 w, (Below.refl _ w).alloc (Nat.le_refl _) _, relQ_start s⟩
  case round =>
    obtain ⟨k, acc, hk, rfl, hal, hI, hbw, HR⟩ := hrel
    have hBw := hbw.size
    have hwl : (Lib.byteCells acc).length + 1 ≤ 140737488355328 := by rw [Lib.byteCells_length]; omega
    by_cases hlt : k < s.size
    · by_cases c92 : s[k].toNat = 92
      · by_cases hlt2 : k + 1 < s.size
        · have HN := relQ_esc HR hlt2 c92
          clear HR
          go_wp2_with fail
          refine (builder_WriteByte w.heap.size w.heap.size _ _ _ hI hwl hBw).mono ?_
          rintro e w1 ⟨rfl, hI1, hb1⟩
          go_wp2
          go_roundw
          case rel => exact ⟨k + 2, acc ++ [s[k + 1]], by omega, by go_num, by simp; omega, by rw [cells_snoc]; exact .inr hI1, hbw.trans hb1, HN⟩
          case measure => simp [intOf]; omega
        · have HN := relQ_esc_end HR hlt hlt2 c92
          clear HR
          go_wp2
          go_roundw
          case rel => exact ⟨k + 2, acc, by omega, by go_num, by omega, hI, hbw, HN⟩
          case measure => simp [intOf]; omega
      · by_cases c34 : s[k].toNat = 34
        · have HF : Hid (acc = (scanQ s.data.toList).1 ∧ k + 1 = (scanQ s.data.toList).2) := relQ_close HR hlt c34
          clear HR
          go_wp2_with fail
          refine (builder_String w.heap.size w.heap.size acc _ hI hBw).mono ?_
          rintro e w1 ⟨rfl, hb1⟩
          go_wp2
          go_ret2
          refine ⟨?_, hbw.trans hb1⟩
          rw [← HF.out.1, ← HF.out.2]
          rfl
        · have HN := relQ_plain HR hlt c92 c34
          clear HR
          go_wp2_with fail
          refine (builder_WriteByte w.heap.size w.heap.size _ _ _ hI hwl hBw).mono ?_
          rintro e w1 ⟨rfl, hI1, hb1⟩
          go_wp2
          go_roundw
          case rel => exact ⟨k + 1, acc ++ [s[k]], by omega, by go_num, by simp; omega, by rw [cells_snoc]; exact .inr hI1, hbw.trans hb1, HN⟩
          case measure => simp [intOf]; omega
    · have HF : Hid (acc = (scanQ s.data.toList).1 ∧ s.size = (scanQ s.data.toList).2) := relQ_end HR hlt
      clear HR
      go_wp2_with fail
      refine (builder_String w.heap.size w.heap.size acc _ hI hBw).mono ?_
      rintro e w1 ⟨rfl, hb1⟩
      go_wp2
      go_ret2
      refine ⟨?_, hbw.trans hb1⟩
      rw [← HF.out.1, ← HF.out.2]
      rfl

set_option maxHeartbeats 400000 in
theorem zzComment_any (s : ByteArray) (w : World) (hs : s.size ≤ 4194304) :
    Calls Try.prog 14 #[.string s] w fun e w' => e = .returned (.tuple #[.string ⟨(scanC 1 s.data.toList).1.toArray⟩, .int .i64 (scanC 1 s.data.toList).2]) ∧ Below w.heap.size w w' := by
  go_enter Try.func14, Try.ntmps14
  go_wp2_with fail
  refine (scanComment_any s _ hs).mono ?_
  rintro e w1 ⟨rfl, hb1⟩
  go_wp2
  go_ret2
  exact ⟨rfl, hb1⟩

set_option maxHeartbeats 400000 in
theorem zzQuoted_any (s : ByteArray) (w : World) (hs : s.size ≤ 4194304) :
    Calls Try.prog 12 #[.string s] w fun e w' => e = .returned (.tuple #[.string ⟨(scanQ s.data.toList).1.toArray⟩, .int .i64 (scanQ s.data.toList).2]) ∧ Below w.heap.size w w' := by
  go_enter Try.func12, Try.ntmps12
  go_wp2_with fail
  refine (scanQuoted_any s _ hs).mono ?_
  rintro e w1 ⟨rfl, hb1⟩
  go_wp2
  go_ret2
  exact ⟨rfl, hb1⟩
end Go.Proofs.Qxb6603932a
