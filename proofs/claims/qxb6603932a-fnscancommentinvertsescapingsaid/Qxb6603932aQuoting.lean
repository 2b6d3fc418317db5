/-
  FnScanQuotedInvertsQuoting (3) and FnScanCommentInvertsEscaping (6): the walks. By an AI agent.
-/
import Derived.Test.Qxb6603932aEscape
namespace Go.Proofs.Qxb6603932a
open Go.RowKit

set_option maxHeartbeats 400000 in
theorem zz10_any (t r : ByteArray) (w : World) (ht : t.size ≤ maxLen) (hr : r.size ≤ maxLen) :
    Calls Try.prog 10 #[.string t, .string r] w fun e w' => (e = .returned (.bool false) ∨ e = .returned (.bool true)) ∧ w' = w := by
  unfold maxLen at ht hr
  by_cases h1 : 1048576 < t.size
  · go_enter Try.func10, Try.ntmps10
    go_wp2
    go_ret
    exact ⟨.inl rfl, rfl⟩
  · by_cases h2 : 1048576 < r.size
    · go_enter Try.func10, Try.ntmps10
      go_wp2
      go_ret
      exact ⟨.inl rfl, rfl⟩
    · by_cases h3 : 1048576 < t.size + r.size
      · go_enter Try.func10, Try.ntmps10
        go_wp2
        go_ret
        exact ⟨.inl rfl, rfl⟩
      · go_enter Try.func10, Try.ntmps10
        go_wp2
        go_ret
        exact ⟨.inr rfl, rfl⟩

theorem escape_quote (t : ByteArray) (w : World) (ht : t.size ≤ 524288) :
    Calls Try.prog 11 #[.string t, .int .u8 34, .int .u8 34, .int .u8 34] w fun e w' => e = .returned (.string ⟨(esc 34 34 t.data.toList ++ [34]).toArray⟩) ∧ Below w.heap.size w w' := by
  have h := escape_any t 34 34 34 w ht
  rw [show ((34 : UInt8).toNat : Int) = 34 from rfl] at h
  exact h

set_option maxHeartbeats 800000 in
theorem quoting_any (t r : ByteArray) (w : World) (ht : t.size ≤ maxLen) (hr : r.size ≤ maxLen) :
    Calls Try.prog 3 #[.string t, .string r] w fun e w' => e = .returned (.bool true) ∧ Below w.heap.size w w' := by
  have ht' := ht
  have hr' := hr
  unfold maxLen at ht' hr'
  by_cases h1 : 524288 < t.size
  · go_enter Try.func3, Try.ntmps3
    go_wp2_with fail
    refine (zz10_any t r _ ht hr).mono ?_
    rintro e w' ⟨rfl | rfl, rfl⟩
    · go_wp2
      go_ret
      exact ⟨rfl, Below.refl _ _⟩
    · go_wp2
      go_ret
      exact ⟨rfl, Below.refl _ _⟩
  by_cases h2 : 524288 < r.size
  · go_enter Try.func3, Try.ntmps3
    go_wp2_with fail
    refine (zz10_any t r _ ht hr).mono ?_
    rintro e w' ⟨rfl | rfl, rfl⟩
    · go_wp2
      go_ret
      exact ⟨rfl, Below.refl _ _⟩
    · go_wp2
      all_goals
        go_ret
        exact ⟨rfl, Below.refl _ _⟩
  have hl := esc_len 34 34 t.data.toList
  have hsz : t.data.toList.length = t.size := Array.length_toList
  rw [hsz] at hl
  have hE : ((⟨(esc 34 34 t.data.toList ++ [34]).toArray⟩ : ByteArray) ++ r).data.toList = esc 34 34 t.data.toList ++ 34 :: r.data.toList := by
    rw [ByteArray.data_append, Array.toList_append]; simp
  have hS := esc_scanQ t.data.toList r.data.toList
  have HE := hideIt2 hE
  have HS := hideIt2 hS
  clear hE hS hsz
  go_enter Try.func3, Try.ntmps3
  go_wp2_with fail
  refine (zz10_any t r _ ht hr).mono ?_
  rintro e w' ⟨rfl | rfl, rfl⟩
  · go_wp2
    go_ret
    exact ⟨rfl, Below.refl _ _⟩
  go_wp2_with fail
  refine (escape_quote t _ (by omega)).mono ?_
  rintro e w1 ⟨rfl, hb1⟩
  generalize esc 34 34 t.data.toList = q at *
  go_wp2_with fail
  refine (zzQuoted_any _ _ ?_).mono ?_
  · rw [ByteArray.size_append]
    have : ByteArray.size ⟨(q ++ [34]).toArray⟩ = q.length + 1 := by show (q ++ [34]).toArray.size = _; simp
    omega
  rintro e w2 ⟨rfl, hb2⟩
  rw [HE.out, HS.out]
  clear HE HS
  go_wp2
  go_ret
  exact ⟨rfl, hb1.trans (hb2.mono hb1.size)⟩
set_option maxHeartbeats 400000 in
theorem zz16_any (t r : ByteArray) (w : World) (ht : t.size ≤ maxLen) (hr : r.size ≤ maxLen) :
    Calls Try.prog 16 #[.string t, .string r] w fun e w' => (e = .returned (.bool false) ∨ e = .returned (.bool true)) ∧ w' = w := by
  unfold maxLen at ht hr
  by_cases h1 : 1048576 < t.size
  · go_enter Try.func16, Try.ntmps16
    go_wp2
    go_ret
    exact ⟨.inl rfl, rfl⟩
  · by_cases h2 : 1048576 < r.size
    · go_enter Try.func16, Try.ntmps16
      go_wp2
      go_ret
      exact ⟨.inl rfl, rfl⟩
    · by_cases h3 : 1048576 < t.size + r.size
      · go_enter Try.func16, Try.ntmps16
        go_wp2
        go_ret
        exact ⟨.inl rfl, rfl⟩
      · go_enter Try.func16, Try.ntmps16
        go_wp2
        go_ret
        exact ⟨.inr rfl, rfl⟩

theorem escape_paren (t : ByteArray) (w : World) (ht : t.size ≤ 524288) :
    Calls Try.prog 11 #[.string t, .int .u8 40, .int .u8 41, .int .u8 41] w fun e w' => e = .returned (.string ⟨(esc 40 41 t.data.toList ++ [41]).toArray⟩) ∧ Below w.heap.size w w' := by
  have h := escape_any t 40 41 41 w ht
  rw [show ((40 : UInt8).toNat : Int) = 40 from rfl, show ((41 : UInt8).toNat : Int) = 41 from rfl] at h
  exact h

set_option maxHeartbeats 800000 in
theorem escaping_any (t r : ByteArray) (w : World) (ht : t.size ≤ maxLen) (hr : r.size ≤ maxLen) :
    Calls Try.prog 6 #[.string t, .string r] w fun e w' => e = .returned (.bool true) ∧ Below w.heap.size w w' := by
  have ht' := ht
  have hr' := hr
  unfold maxLen at ht' hr'
  by_cases h1 : 524288 < t.size
  · go_enter Try.func6, Try.ntmps6
    go_wp2_with fail
    refine (zz16_any t r _ ht hr).mono ?_
    rintro e w' ⟨rfl | rfl, rfl⟩
    · go_wp2
      go_ret
      exact ⟨rfl, Below.refl _ _⟩
    · go_wp2
      go_ret
      exact ⟨rfl, Below.refl _ _⟩
  by_cases h2 : 524288 < r.size
  · go_enter Try.func6, Try.ntmps6
    go_wp2_with fail
    refine (zz16_any t r _ ht hr).mono ?_
    rintro e w' ⟨rfl | rfl, rfl⟩
    · go_wp2
      go_ret
      exact ⟨rfl, Below.refl _ _⟩
    · go_wp2
      all_goals
        go_ret
        exact ⟨rfl, Below.refl _ _⟩
  have hl := esc_len 40 41 t.data.toList
  have hsz : t.data.toList.length = t.size := Array.length_toList
  rw [hsz] at hl
  have hE : ((⟨(esc 40 41 t.data.toList ++ [41]).toArray⟩ : ByteArray) ++ r).data.toList = esc 40 41 t.data.toList ++ 41 :: r.data.toList := by
    rw [ByteArray.data_append, Array.toList_append]; simp
  have hS := esc_scanC t.data.toList r.data.toList
  have HE := hideIt2 hE
  have HS := hideIt2 hS
  clear hE hS hsz
  go_enter Try.func6, Try.ntmps6
  go_wp2_with fail
  refine (zz16_any t r _ ht hr).mono ?_
  rintro e w' ⟨rfl | rfl, rfl⟩
  · go_wp2
    go_ret
    exact ⟨rfl, Below.refl _ _⟩
  go_wp2_with fail
  refine (escape_paren t _ (by omega)).mono ?_
  rintro e w1 ⟨rfl, hb1⟩
  generalize esc 40 41 t.data.toList = q at *
  go_wp2_with fail
  refine (zzComment_any _ _ ?_).mono ?_
  · rw [ByteArray.size_append]
    have : ByteArray.size ⟨(q ++ [41]).toArray⟩ = q.length + 1 := by show (q ++ [41]).toArray.size = _; simp
    omega
  rintro e w2 ⟨rfl, hb2⟩
  rw [HE.out, HS.out]
  clear HE HS
  go_wp2
  go_ret
  exact ⟨rfl, hb1.trans (hb2.mono hb1.size)⟩
end Go.Proofs.Qxb6603932a
