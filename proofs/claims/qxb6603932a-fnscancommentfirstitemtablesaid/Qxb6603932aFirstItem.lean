/-
  FnScanCommentFirstItemTable (5): the walk. By an AI agent.
-/
import Derived.Test.Qxb6603932aScan
import Derived.Test.Qxb6603932aScanLaws
namespace Go.Proofs.Qxb6603932a
open Go.RowKit

theorem pair_of (q : List UInt8 × Nat) : ∃ t n, Hid (q = (t, n)) := ⟨q.1, q.2, rfl⟩

theorem hideIt {p : Prop} (h : p) : Hid p := h

theorem extract_drop (s : ByteArray) (k : Nat) : (s.extract k s.size).data.toList = s.data.toList.drop k := by
  simp [ByteArray.data_extract]
  exact List.take_of_length_le (by simp)

theorem len_drop (s : ByteArray) (k : Nat) : (s.data.toList.drop k).length = s.size - k := by
  rw [List.length_drop, Array.length_toList]; rfl

theorem piece_one (s : ByteArray) (k : Nat) (h : k < s.size) : (s.extract k (k + 1)).data.toList = [s[k]] := by
  rw [ByteArray.data_extract, Array.toList_extract, List.extract_eq_take_drop, drop_byte s k h, Nat.add_sub_cancel_left]
  rfl

set_option maxHeartbeats 400000 in
theorem zz15_any (s : ByteArray) (w : World) (hs : s.size ≤ 1048576) :
    Calls Try.prog 15 #[.string s] w fun e w' => e = .returned (.bool true) ∧ w' = w := by
  go_enter Try.func15, Try.ntmps15
  go_wp2
  go_ret
  exact ⟨rfl, rfl⟩

set_option maxHeartbeats 1600000 in
theorem firstItem_any (s : ByteArray) (w : World) (hs : s.size ≤ maxLen) :
    Calls Try.prog 5 #[.string s] w fun e w' => e = .returned (.bool true) ∧ Below w.heap.size w w' := by
  unfold maxLen at hs
  by_cases hbig : 1048576 < s.size
  · go_enter Try.func5, Try.ntmps5
    go_wp2
    go_ret
    exact ⟨rfl, Below.refl _ _⟩
  by_cases h0 : s.size = 0
  · have hl : s.data.toList = [] := List.eq_nil_of_length_eq_zero (by simpa using h0)
    go_enter Try.func5, Try.ntmps5
    go_wp2_with fail
    refine (zz15_any s _ (by omega)).mono ?_
    rintro e w0 ⟨rfl, rfl⟩
    go_wp2_with fail
    refine (zzComment_any s _ (by omega)).mono ?_
    rintro e w1 ⟨rfl, hb1⟩
    rw [hl, scanC_nil]
    go_wp2
    go_ret
    exact ⟨rfl, hb1⟩
  have hlt : 0 < s.size := by omega
  have hd0 := drop_byte s 0 hlt
  rw [List.drop_zero] at hd0
  by_cases c41 : s[0].toNat = 41
  · rw [byte_eq c41 (by decide)] at hd0
    have E : scanC 1 s.data.toList = ([], 1) := by rw [hd0]; exact scanC_close _
    have HE : Hid (scanC 1 s.data.toList = ([], 1)) := E
    clear E hd0
    go_enter Try.func5, Try.ntmps5
    go_wp2_with fail
    refine (zz15_any s _ (by omega)).mono ?_
    rintro e w0 ⟨rfl, rfl⟩
    go_wp2_with fail
    refine (zzComment_any s _ (by omega)).mono ?_
    rintro e w1 ⟨rfl, hb1⟩
    rw [HE.out]
    go_wp2
    go_ret
    exact ⟨rfl, hb1⟩
  by_cases c92 : s[0].toNat = 92
  · rw [byte_eq c92 (by decide)] at hd0
    by_cases h1 : s.size = 1
    · rw [drop_none s 1 (by omega)] at hd0
      have E : scanC 1 s.data.toList = ([], 1) := by rw [hd0]; exact scanC_esc_end _
      have HE : Hid (scanC 1 s.data.toList = ([], 1)) := E
      clear E hd0
      go_enter Try.func5, Try.ntmps5
      go_wp2_with fail
      refine (zz15_any s _ (by omega)).mono ?_
      rintro e w0 ⟨rfl, rfl⟩
      go_wp2_with fail
      refine (zzComment_any s _ (by omega)).mono ?_
      rintro e w1 ⟨rfl, hb1⟩
      rw [HE.out]
      go_wp2
      go_ret
      exact ⟨rfl, hb1⟩
    · have hlt1 : 1 < s.size := by omega
      rw [drop_byte s 1 hlt1] at hd0
      have E : scanC 1 s.data.toList = (s[1] :: (scanC 1 (s.data.toList.drop 2)).1, (scanC 1 (s.data.toList.drop 2)).2 + 2) := by rw [hd0]; exact scanC_esc _ _ _
      have HE := hideIt E
      clear E hd0
      have hle := (scanC_le (s.data.toList.drop 2) 1).2
      have hle1 := (scanC_le (s.data.toList.drop 2) 1).1
      rw [len_drop] at hle hle1
      go_enter Try.func5, Try.ntmps5
      go_wp2_with fail
      refine (zz15_any s _ (by omega)).mono ?_
      rintro e w0 ⟨rfl, rfl⟩
      go_wp2_with fail
      refine (zzComment_any s _ (by omega)).mono ?_
      rintro e w1 ⟨rfl, hb1⟩
      rw [HE.out]
      clear HE
      go_wp2_with fail
      refine (zzComment_any (s.extract 2 s.size) _ (by rw [ByteArray.size_extract]; omega)).mono ?_
      rintro e w2 ⟨rfl, hb2⟩
      rw [extract_drop]
      generalize scanC 1 (s.data.toList.drop 2) = q at *
      obtain ⟨t2, n2⟩ := q
      have hi2 : (2 : Int) ≤ (s.size : Int) := by omega
      have hq : (s.extract 1 2 ++ { data := t2.toArray }).toList = s[1] :: t2 := by rw [ByteArray.toList_eq, ByteArray.data_append, Array.toList_append, piece_one s 1 hlt1]; rfl
      go_wp2
      go_ret
      exact ⟨rfl, hb1.trans (hb2.mono hb1.size)⟩
  obtain ⟨t1, n1, H1⟩ : ∃ t1 n1, Hid (scanC 1 (s.data.toList.drop 1) = (t1, n1)) := pair_of _
  have hle1 := scanC_le (s.data.toList.drop 1) 1
  rw [len_drop, H1.out] at hle1
  obtain ⟨ht1, hn1⟩ := hle1
  have hi1 : (1 : Int) ≤ (s.size : Int) := by omega
  by_cases c40 : s[0].toNat = 40
  · rw [byte_eq c40 (by decide)] at hd0
    obtain ⟨tp, np, Hp⟩ : ∃ tp np, Hid (scanC 1 (s.data.toList.drop 1 ++ [97]) = (tp, np)) := pair_of _
    have hlp := scanC_le (s.data.toList.drop 1 ++ [97]) 1
    rw [List.length_append, len_drop, Hp.out] at hlp
    have hpd : (s.extract 1 s.size ++ ({ data := #[97] } : ByteArray)).data.toList = s.data.toList.drop 1 ++ [97] := by
      rw [ByteArray.data_append, Array.toList_append, extract_drop]
    have HD := hideIt hpd
    clear hpd
    have hz : (s.extract 1 s.size ++ ({ data := #[97] } : ByteArray)).size ≤ 4194304 := by
      rw [ByteArray.size_append, ByteArray.size_extract]
      have : ({ data := #[97] } : ByteArray).size = 1 := rfl
      omega
    have HZ := hideIt hz
    clear hz
    by_cases hpr : np = n1
    · subst hpr
      obtain ⟨hnn, hE⟩ := nested_shut (s.data.toList.drop 1) (by rw [Hp.out, H1.out])
      rw [show (40 : UInt8) :: s.data.toList.drop 1 = s.data.toList from hd0.symm, List.drop_drop, H1.out] at hE
      obtain ⟨t2, n2, H2⟩ : ∃ t2 n2, Hid (scanC 1 (s.data.toList.drop (1 + np)) = (t2, n2)) := pair_of _
      have hle2 := scanC_le (s.data.toList.drop (1 + np)) 1
      rw [len_drop, H2.out] at hle2
      obtain ⟨ht2, hn2⟩ := hle2
      simp only [H2.out] at hE
      have HE := hideIt hE
      clear hE hd0 hnn hlp
      go_enter Try.func5, Try.ntmps5
      go_wp2_with fail
      refine (zz15_any s _ (by omega)).mono ?_
      rintro e w0 ⟨rfl, rfl⟩
      go_wp2_with fail
      refine (zzComment_any s _ (by omega)).mono ?_
      rintro e w1 ⟨rfl, hb1⟩
      rw [HE.out]
      clear HE
      go_wp2_with fail
      refine (zzComment_any (s.extract 1 s.size) _ (by rw [ByteArray.size_extract]; omega)).mono ?_
      rintro e w2 ⟨rfl, hb2⟩
      rw [extract_drop, H1.out]
      go_wp2_with fail
      refine (zzComment_any (s.extract 1 s.size ++ ({ data := #[97] } : ByteArray)) _ HZ.out).mono ?_
      rintro e w3 ⟨rfl, hb3⟩
      rw [HD.out, Hp.out]
      go_wp2_with fail
      refine (zzComment_any (s.extract (1 + np) s.size) _ (by rw [ByteArray.size_extract]; omega)).mono ?_
      rintro e w4 ⟨rfl, hb4⟩
      rw [extract_drop, H2.out]
      clear HD Hp H1 H2 HZ
      have hq : (({ data := #[40] } : ByteArray) ++ { data := t1.toArray } ++ { data := #[41] } ++ { data := t2.toArray }).toList = 40 :: (t1 ++ 41 :: t2) := by
        rw [ByteArray.toList_eq]; simp [ByteArray.data_append]
      go_wp2
      go_ret
      have hb12 := hb1.trans (hb2.mono hb1.size)
      have hb13 := hb12.trans (hb3.mono hb12.size)
      exact ⟨rfl, hb13.trans (hb4.mono hb13.size)⟩
    · have hE := nested_open (s.data.toList.drop 1) (by rw [Hp.out, H1.out]; exact hpr)
      rw [show (40 : UInt8) :: s.data.toList.drop 1 = s.data.toList from hd0.symm, len_drop, H1.out, Nat.sub_add_cancel hlt] at hE
      have HE := hideIt hE
      clear hE hd0
      go_enter Try.func5, Try.ntmps5
      go_wp2_with fail
      refine (zz15_any s _ (by omega)).mono ?_
      rintro e w0 ⟨rfl, rfl⟩
      go_wp2_with fail
      refine (zzComment_any s _ (by omega)).mono ?_
      rintro e w1 ⟨rfl, hb1⟩
      rw [HE.out]
      clear HE
      go_wp2_with fail
      refine (zzComment_any (s.extract 1 s.size) _ (by rw [ByteArray.size_extract]; omega)).mono ?_
      rintro e w2 ⟨rfl, hb2⟩
      rw [extract_drop, H1.out]
      go_wp2_with fail
      refine (zzComment_any (s.extract 1 s.size ++ ({ data := #[97] } : ByteArray)) _ HZ.out).mono ?_
      rintro e w3 ⟨rfl, hb3⟩
      rw [HD.out, Hp.out]
      clear HD Hp H1 HZ hlp
      have hq : (({ data := #[40] } : ByteArray) ++ { data := t1.toArray }).toList = 40 :: t1 := by
        rw [ByteArray.toList_eq]; simp [ByteArray.data_append]
      go_wp2
      go_ret
      have hb12 := hb1.trans (hb2.mono hb1.size)
      exact ⟨rfl, hb12.trans (hb3.mono hb12.size)⟩
  · have E : scanC 1 s.data.toList = (s[0] :: t1, n1 + 1) := by
      rw [hd0, scanC_plain 1 _ (byte_ne c92 (by decide)) (byte_ne c40 (by decide)) (byte_ne c41 (by decide)), H1.out]
    have HE := hideIt E
    clear E hd0
    go_enter Try.func5, Try.ntmps5
    go_wp2_with fail
    refine (zz15_any s _ (by omega)).mono ?_
    rintro e w0 ⟨rfl, rfl⟩
    go_wp2_with fail
    refine (zzComment_any s _ (by omega)).mono ?_
    rintro e w1 ⟨rfl, hb1⟩
    rw [HE.out]
    clear HE
    go_wp2_with fail
    refine (zzComment_any (s.extract 1 s.size) _ (by rw [ByteArray.size_extract]; omega)).mono ?_
    rintro e w2 ⟨rfl, hb2⟩
    rw [extract_drop, H1.out]
    have hq : (s.extract 0 1 ++ { data := t1.toArray }).toList = s[0] :: t1 := by rw [ByteArray.toList_eq, ByteArray.data_append, Array.toList_append, piece_one s 0 hlt]; rfl
    go_wp2
    go_ret
    exact ⟨rfl, hb1.trans (hb2.mono hb1.size)⟩
end Go.Proofs.Qxb6603932a
