/-
  FnScanCommentAgreesWithScanQuotedOffDelimiters (4): the walk. By an AI agent.
-/
import Derived.Test.Qxb6603932aScan
import Derived.Test.Qxb6603932aScanLaws
namespace Go.Proofs.Qxb6603932a
open Go.RowKit

theorem hideIt4 {p : Prop} (h : p) : Hid p := h

set_option maxHeartbeats 400000 in
theorem zz13_any (s : ByteArray) (w : World) (hs : s.size ≤ 1048576) :
    Calls Try.prog 13 #[.string s] w fun e w' => e = .returned (.bool true) ∧ w' = w := by
  go_enter Try.func13, Try.ntmps13
  go_wp2
  go_ret
  exact ⟨rfl, rfl⟩

theorem off_next {s : ByteArray} {k : Nat} (hk : k < s.size) (h : ∀ c ∈ s.data.toList.take k, c ≠ 40 ∧ c ≠ 41 ∧ c ≠ 34) (h1 : ¬ s[k].toNat = 40) (h2 : ¬ s[k].toNat = 41) (h3 : ¬ s[k].toNat = 34) :
    ∀ c ∈ s.data.toList.take (k + 1), c ≠ 40 ∧ c ≠ 41 ∧ c ≠ 34 := by
  rw [List.take_succ_eq_append_getElem (by simpa using hk)]
  intro c hc
  rcases List.mem_append.1 hc with hc | hc
  · exact h c hc
  · have e : c = s[k] := List.mem_singleton.1 hc
    subst e
    exact ⟨byte_ne h1 (by decide), byte_ne h2 (by decide), byte_ne h3 (by decide)⟩

set_option maxHeartbeats 1000000 in
theorem agrees_any (s : ByteArray) (w : World) (hs : s.size ≤ maxLen) :
    Calls Try.prog 4 #[.string s] w fun e w' => e = .returned (.bool true) ∧ Below w.heap.size w w' := by
  unfold maxLen at hs
  by_cases hbig : 1048576 < s.size
  · go_enter Try.func4, Try.ntmps4
    go_wp2
    go_ret
    exact ⟨rfl, Below.refl _ _⟩
  go_enter Try.func4, Try.ntmps4
  go_wp2_with fail
  refine (zz13_any s _ (by omega)).mono ?_
  rintro e w0 ⟨rfl, rfl⟩
  go_wp2
  go_loop [3] (fun iv => ∃ k : Nat, k ≤ s.size ∧ iv = .int .i64 k ∧ Hid (∀ c ∈ s.data.toList.take k, c ≠ 40 ∧ c ≠ 41 ∧ c ≠ 34)) (fun iv => s.size - (intOf iv).toNat)
  case atStart => exact ⟨0, Nat.zero_le _, rfl, by intro c hc; simp at hc⟩
  case round =>
    obtain ⟨k, hk, rfl, HO⟩ := hrel
    by_cases hlt : k < s.size
    · by_cases c40 : s[k].toNat = 40
      · go_wp2
        go_ret
        exact ⟨rfl, Below.refl _ _⟩
      by_cases c41 : s[k].toNat = 41
      · go_wp2
        go_ret
        exact ⟨rfl, Below.refl _ _⟩
      by_cases c34 : s[k].toNat = 34
      · go_wp2
        go_ret
        exact ⟨rfl, Below.refl _ _⟩
      have HN := hideIt4 (off_next hlt HO.out c40 c41 c34)
      have d1 : ((s[k].toNat : Int) == 40) = false := beq_eq_false_iff_ne.2 (by omega)
      have d2 : ((s[k].toNat : Int) == 41) = false := beq_eq_false_iff_ne.2 (by omega)
      have d3 : ((s[k].toNat : Int) == 34) = false := beq_eq_false_iff_ne.2 (by omega)
      clear HO c40 c41 c34
      go_wp2
      go_round
      case rel => exact ⟨k + 1, by omega, by go_num, HN⟩
      case measure => simp [intOf]; omega
    · have hkt : k = s.size := by omega
      subst hkt
      have hO := HO.out
      rw [List.take_of_length_le (by rw [Array.length_toList]; exact Nat.le_refl _)] at hO
      obtain ⟨a1, a2⟩ := agree s.data.toList hO
      have hsz : s.data.toList.length = s.size := Array.length_toList
      rw [hsz, a1] at a2
      have H1 := hideIt4 a1
      obtain ⟨t, n, HP⟩ : ∃ t n, Hid (scanQ s.data.toList = (t, n)) := ⟨(scanQ s.data.toList).1, (scanQ s.data.toList).2, rfl⟩
      rw [HP.out] at a2
      have H2 : Hid (n = s.size) := a2
      clear hO a1 a2 hsz HO
      go_wp2_with fail
      refine (zzComment_any s _ (by omega)).mono ?_
      rintro e w1 ⟨rfl, hb1⟩
      rw [H1.out, HP.out, H2.out]
      go_wp2_with fail
      refine (zzQuoted_any s _ (by omega)).mono ?_
      rintro e w2 ⟨rfl, hb2⟩
      rw [HP.out, H2.out]
      clear HP H1 H2
      go_wp2
      go_ret
      exact ⟨rfl, hb1.trans (hb2.mono hb1.size)⟩
end Go.Proofs.Qxb6603932a
