/-
  FnScanCommentKeepsBalancedText (7): the walk. By an AI agent.
-/
import Derived.Test.Qxb6603932aScan
import Derived.Test.Qxb6603932aScanLaws
namespace Go.Proofs.Qxb6603932a
open Go.RowKit

theorem hideIt3 {p : Prop} (h : p) : Hid p := h

theorem bal_nil (d : Nat) : bal d [] = (d == 0) := rfl
theorem bal_esc (d : Nat) (r : List UInt8) : bal d (92 :: r) = false := by rw [bal]; rfl
theorem bal_open (d : Nat) (r : List UInt8) : bal d (40 :: r) = bal (d + 1) r := by rw [bal]; rfl
theorem bal_shut0 (r : List UInt8) : bal 0 (41 :: r) = false := by rw [bal]; rfl
theorem bal_shut (d : Nat) (r : List UInt8) (h : d ≠ 0) : bal d (41 :: r) = bal (d - 1) r := by rw [bal, if_neg (by decide), if_neg (by decide), if_pos rfl, if_neg h]
theorem bal_plain (d : Nat) (c : UInt8) (r : List UInt8) (h1 : c ≠ 92) (h2 : c ≠ 40) (h3 : c ≠ 41) : bal d (c :: r) = bal d r := by rw [bal, if_neg h1, if_neg h2, if_neg h3]

set_option maxHeartbeats 800000 in
theorem balanced_any (t : ByteArray) (w : World) (ht : t.size ≤ 1048576) :
    Calls Try.prog 18 #[.string t] w fun e w' => e = .returned (.bool (bal 0 t.data.toList)) ∧ w' = w := by
  go_enter Try.func18, Try.ntmps18
  go_wp2
  go_loop [3, 4] (fun dv iv => ∃ k d : Nat, k ≤ t.size ∧ iv = .int .i64 k ∧ dv = .int .i64 d ∧ d ≤ k ∧ Hid (bal d (t.data.toList.drop k) = bal 0 t.data.toList)) (fun _ iv => t.size - (intOf iv).toNat)
  case atStart => exact ⟨0, 0, Nat.zero_le _, rfl, rfl, Nat.le_refl _, rfl⟩
  case round =>
    obtain ⟨k, d, hk, rfl, rfl, hd, HB⟩ := hrel
    by_cases hlt : k < t.size
    · have hdr := drop_byte t k hlt
      have HD := hideIt3 hdr
      clear hdr
      by_cases c92 : t[k].toNat = 92
      · go_wp2
        go_ret
        refine ⟨?_, rfl⟩
        rw [← HB.out, HD.out, byte_eq c92 (by decide)]
        rw [show (UInt8.ofNat 92) = 92 from rfl, bal_esc]
        rfl
      by_cases c40 : t[k].toNat = 40
      · have hn : bal d (t.data.toList.drop k) = bal (d + 1) (t.data.toList.drop (k + 1)) := by
          rw [HD.out, byte_eq c40 (by decide)]; exact bal_open _ _
        rw [hn] at HB
        clear hn HD
        go_wp2
        go_round
        case rel => exact ⟨k + 1, d + 1, by omega, by go_num, by go_num, by omega, HB⟩
        case measure => simp [intOf]; omega
      by_cases c41 : t[k].toNat = 41
      · by_cases h0 : d = 0
        · subst h0
          have hn : bal 0 (t.data.toList.drop k) = false := by
            rw [HD.out, byte_eq c41 (by decide)]; exact bal_shut0 _
          rw [hn] at HB
          clear hn HD
          go_wp2
          go_ret
          refine ⟨?_, rfl⟩
          rw [← HB.out]
          rfl
        · have hn : bal d (t.data.toList.drop k) = bal (d - 1) (t.data.toList.drop (k + 1)) := by
            rw [HD.out, byte_eq c41 (by decide)]; exact bal_shut _ _ h0
          rw [hn] at HB
          clear hn HD
          have hdp : 1 ≤ d := by omega
          go_wp2
          go_round
          case rel => exact ⟨k + 1, d - 1, by omega, by go_num, by go_num, by omega, HB⟩
          case measure => simp [intOf]; omega
      · have hn : bal d (t.data.toList.drop k) = bal d (t.data.toList.drop (k + 1)) := by
          rw [HD.out]; exact bal_plain _ _ _ (byte_ne c92 (by decide)) (byte_ne c40 (by decide)) (byte_ne c41 (by decide))
        rw [hn] at HB
        clear hn HD
        go_wp2
        go_round
        case rel => exact ⟨k + 1, d, by omega, by go_num, rfl, by omega, HB⟩
        case measure => simp [intOf]; omega
    · rw [drop_none t k (by omega), bal_nil] at HB
      go_wp2
      go_ret
      refine ⟨?_, rfl⟩
      rw [← HB.out]
      have e0 : ((d : Int) == 0) = (d == 0) := by rw [Bool.eq_iff_iff]; simp
      rw [← e0]
      rfl

set_option maxHeartbeats 400000 in
theorem zz17_any (t r : ByteArray) (w : World) (ht : t.size ≤ maxLen) (hr : r.size ≤ maxLen) :
    Calls Try.prog 17 #[.string t, .string r] w fun e w' => (e = .returned (.bool false) ∨ e = .returned (.bool true)) ∧ w' = w := by
  unfold maxLen at ht hr
  by_cases h1 : 1048576 < t.size
  · go_enter Try.func17, Try.ntmps17
    go_wp2
    go_ret
    exact ⟨.inl rfl, rfl⟩
  · by_cases h2 : 1048576 < r.size
    · go_enter Try.func17, Try.ntmps17
      go_wp2
      go_ret
      exact ⟨.inl rfl, rfl⟩
    · by_cases h3 : 1048576 < t.size + r.size
      · go_enter Try.func17, Try.ntmps17
        go_wp2
        go_ret
        exact ⟨.inl rfl, rfl⟩
      · go_enter Try.func17, Try.ntmps17
        go_wp2
        go_ret
        exact ⟨.inr rfl, rfl⟩

set_option maxHeartbeats 800000 in
theorem keeps_any (t r : ByteArray) (w : World) (ht : t.size ≤ maxLen) (hr : r.size ≤ maxLen) :
    Calls Try.prog 7 #[.string t, .string r] w fun e w' => e = .returned (.bool true) ∧ Below w.heap.size w w' := by
  have ht' := ht
  have hr' := hr
  unfold maxLen at ht' hr'
  by_cases h1 : 524288 < t.size
  · go_enter Try.func7, Try.ntmps7
    go_wp2_with fail
    refine (zz17_any t r _ ht hr).mono ?_
    rintro e w' ⟨rfl | rfl, rfl⟩
    · go_wp2
      go_ret
      exact ⟨rfl, Below.refl _ _⟩
    · go_wp2
      go_ret
      exact ⟨rfl, Below.refl _ _⟩
  by_cases h2 : 524288 < r.size
  · go_enter Try.func7, Try.ntmps7
    go_wp2_with fail
    refine (zz17_any t r _ ht hr).mono ?_
    rintro e w' ⟨rfl | rfl, rfl⟩
    · go_wp2
      go_ret
      exact ⟨rfl, Below.refl _ _⟩
    · go_wp2
      all_goals
        go_ret
        exact ⟨rfl, Below.refl _ _⟩
  have hE : (t ++ (⟨#[41]⟩ : ByteArray) ++ r).data.toList = t.data.toList ++ 41 :: r.data.toList := by
    rw [ByteArray.data_append, ByteArray.data_append, Array.toList_append, Array.toList_append]; simp
  have HE := hideIt3 hE
  have hZ : (t ++ (⟨#[41]⟩ : ByteArray) ++ r).size ≤ 4194304 := by
    rw [ByteArray.size_append, ByteArray.size_append]
    have : (⟨#[41]⟩ : ByteArray).size = 1 := rfl
    omega
  have HZ := hideIt3 hZ
  have hsz : t.data.toList.length = t.size := Array.length_toList
  have HL := hideIt3 hsz
  clear hE hZ hsz
  go_enter Try.func7, Try.ntmps7
  go_wp2_with fail
  refine (zz17_any t r _ ht hr).mono ?_
  rintro e w' ⟨rfl | rfl, rfl⟩
  · go_wp2
    go_ret
    exact ⟨rfl, Below.refl _ _⟩
  go_wp2_with fail
  refine (balanced_any t _ (by omega)).mono ?_
  rintro e w1 ⟨rfl, rfl⟩
  cases hb : bal 0 t.data.toList with
  | false =>
    clear hb
    go_wp2
    go_ret
    exact ⟨rfl, Below.refl _ _⟩
  | true =>
    have hS := bal_scan t.data.toList r.data.toList 0 hb
    rw [Nat.zero_add, HL.out] at hS
    have HS := hideIt3 hS
    clear hb hS HL
    go_wp2_with fail
    refine (zzComment_any (t ++ (⟨#[41]⟩ : ByteArray) ++ r) _ HZ.out).mono ?_
    rintro e w2 ⟨rfl, hb2⟩
    rw [HE.out, HS.out]
    clear HE HS HZ
    go_wp2
    go_ret
    exact ⟨rfl, hb2⟩
end Go.Proofs.Qxb6603932a
