/-
  FnAlternativeShownOfConcatenation (9): the walk. By an AI agent.
-/
import Derived.Test.Qxb6603932aConcatPlain
import Derived.Test.Qxb6603932aCaseTable
namespace Go.Proofs.Qxb6603932a
open Go.ChangeShapes Go.WideShapes Go.ChangeAt Go.RowKit

/-- The value v is b1PartsOf's slice of parts of the types tl. -/
def PartsVal (w : World) (v : Value) (tl : List (List UInt8)) : Prop :=
  (tl = [] ∧ v = .slice none 0 0) ∨ ∃ (blk n : Nat) (ts : Nat → ByteArray), v = .slice (some ⟨blk, 0, none⟩) n n ∧ n ≤ 1048576 ∧ tl.length = n ∧ (∀ i, i < n → tl[i]? = some (ts i).toList) ∧ PartsRow w blk n ts

theorem zzShown_any (v : Value) (tl : List (List UInt8)) (w : World) (hv : PartsVal w v tl) :
    Calls Try.prog 21 #[v] w fun e w' => e = .returned (.int .i64 (shownFrom 0 (-1) tl)) ∧ Below w.heap.size w w' := by
  rcases hv with ⟨rfl, rfl⟩ | ⟨blk, n, ts, rfl, hn, hl, ht, hr⟩
  · refine (zzShown_none w).mono ?_
    rintro e w' ⟨rfl, rfl⟩
    exact ⟨rfl, Below.refl _ _⟩
  · exact zzShown_some blk n ts tl w hn hl ht hr

theorem typesOf_zero (ss : List ByteArray) : typesOf ss 0 = [] := by simp [typesOf]

theorem partsOf_any (a0 b0 : Option Addr) (la ca lb cb : Nat) (sa sb : List ByteArray) (w : World) (ha : la ≤ 65536) (hb : lb ≤ 65536) (hA : StrsAt w a0 la sa) (hB : StrsAt w b0 lb sb) :
    Calls Try.prog 22 #[.slice a0 la ca, .slice b0 lb cb] w fun e w' => ∃ v, e = .returned v ∧ PartsVal w' v (typesOf sa la ++ typesOf sb lb) ∧ Below w.heap.size w w' := by
  by_cases h0 : la + lb = 0
  · obtain rfl : la = 0 := by omega
    obtain rfl : lb = 0 := by omega
    refine (partsOf_none a0 b0 ca cb w).mono ?_
    rintro e w' ⟨rfl, rfl⟩
    exact ⟨_, rfl, .inl ⟨by simp [typesOf], rfl⟩, Below.refl _ _⟩
  · refine (partsOf_some a0 b0 la ca lb cb sa sb w ha hb (by omega) hA hB).mono ?_
    rintro e w' ⟨rfl, hrow, hbel⟩
    refine ⟨_, rfl, .inr ⟨_, la + lb, _, rfl, by omega, by rw [List.length_append, typesOf_length hA.1, typesOf_length hB.1], fun i hi => ?_, hrow⟩, hbel⟩
    by_cases h : i < la
    · rw [List.getElem?_append_left (by rw [typesOf_length hA.1]; exact h), typesOf_at h hA.1]
      simp [upTo, h]
    · rw [List.getElem?_append_right (by rw [typesOf_length hA.1]; omega), typesOf_length hA.1, typesOf_at (by omega) hB.1]
      simp [upTo, h, show i - la < lb by omega]

theorem partsOf_lone (a0 : Option Addr) (la ca : Nat) (sa : List ByteArray) (w : World) (ha : la ≤ 65536) (hA : StrsAt w a0 la sa) :
    Calls Try.prog 22 #[.slice a0 la ca, .slice none 0 0] w fun e w' => ∃ v, e = .returned v ∧ PartsVal w' v (typesOf sa la) ∧ Below w.heap.size w w' := by
  refine (partsOf_any a0 none la ca 0 0 sa [] w ha (by omega) hA ⟨by simp, fun j hj => by omega⟩).mono ?_
  rintro e w' ⟨v, rfl, hv, hb⟩
  rw [typesOf_zero, List.append_nil] at hv
  exact ⟨v, rfl, hv, hb⟩

set_option maxHeartbeats 800000 in
theorem zzTwo_any (a0 b0 : Option Addr) (la ca lb cb : Nat) (sa sb : List ByteArray) (w : World) (hla : la ≤ maxLen) (hlb : lb ≤ maxLen) (hA : StrsAt w a0 la sa) (hB : StrsAt w b0 lb sb) :
    Calls Try.prog 24 #[.slice a0 la ca, .slice b0 lb cb] w fun e w' => (e = .returned (.bool false) ∨ e = .returned (.bool true)) ∧ w' = w := by
  obtain ⟨_, hcellA⟩ := hA
  obtain ⟨_, hcellB⟩ := hB
  unfold maxLen at hla hlb
  by_cases hbig : 1048576 < la
  · go_enter Try.func24, Try.ntmps24
    go_wp2
    go_ret
    exact ⟨.inl rfl, rfl⟩
  · go_enter Try.func24, Try.ntmps24
    go_wp2
    go_loop [5, 6] (fun n i => ∃ k : Nat, k ≤ la ∧ i = .int .i64 k ∧ ∃ m : Nat, m ≤ 1048576 ∧ n = .int .i64 m) (fun _ i => la - (intOf i).toNat)
    case atStart => exact ⟨0, Nat.zero_le _, rfl, la, by omega, rfl⟩
    case round =>
      obtain ⟨k, hk, rfl, m, hm, rfl⟩ := hrel
      by_cases hlt : k < la
      · obtain ⟨b, off, rfl, hb, hc, hs⟩ := hcellA k hlt
        clear hcellA hcellB
        unfold maxLen at hs
        obtain ⟨s, Hs⟩ : ∃ s, Hid (s = sa.getD k ByteArray.empty) := ⟨_, rfl⟩
        rw [← Hs.out] at hc hs
        by_cases hsb : 1048576 < s.size
        · go_wp2
          go_ret
          exact ⟨.inl rfl, rfl⟩
        · by_cases hsum : 1048576 < m + s.size
          · go_wp2
            go_ret
            exact ⟨.inl rfl, rfl⟩
          · go_wp2
            go_round
            case rel => exact ⟨k + 1, by omega, by go_num, m + s.size, by omega, by go_num⟩
            case measure => simp [intOf]; omega
      · clear hcellA
        by_cases hb1 : 1048576 < lb
        · clear hcellB
          go_wp2
          go_ret
          exact ⟨.inl rfl, rfl⟩
        by_cases hb2 : 1048576 < m + lb
        · clear hcellB
          go_wp2
          go_ret
          exact ⟨.inl rfl, rfl⟩
        go_wp2
        go_loop [5, 7] (fun n i => ∃ k : Nat, k ≤ lb ∧ i = .int .i64 k ∧ ∃ m : Nat, m ≤ 1048576 ∧ n = .int .i64 m) (fun _ i => lb - (intOf i).toNat)
        case atStart => exact ⟨0, Nat.zero_le _, rfl, m + lb, by omega, by go_num⟩
        case round =>
          obtain ⟨j, hj, rfl, m2, hm2, rfl⟩ := hrel
          by_cases hlt : j < lb
          · obtain ⟨b, off, rfl, hb, hc, hs⟩ := hcellB j hlt
            clear hcellB
            unfold maxLen at hs
            obtain ⟨s, Hs⟩ : ∃ s, Hid (s = sb.getD j ByteArray.empty) := ⟨_, rfl⟩
            rw [← Hs.out] at hc hs
            by_cases hsb : 1048576 < s.size
            · go_wp2
              go_ret
              exact ⟨.inl rfl, rfl⟩
            · by_cases hsum : 1048576 < m2 + s.size
              · go_wp2
                go_ret
                exact ⟨.inl rfl, rfl⟩
              · go_wp2
                go_round
                case rel => exact ⟨j + 1, by omega, by go_num, m2 + s.size, by omega, by go_num⟩
                case measure => simp [intOf]; omega
          · clear hcellB
            go_wp2
            go_ret
            exact ⟨.inr rfl, rfl⟩

theorem hold_of {ss : List ByteArray} {n : Nat} {l : List UInt8} (want : ByteArray) (e : want.toList = l) : holdsB ss n want = decide (l ∈ typesOf ss n) := by
  unfold holdsB typesOf
  rw [e, List.contains_eq_mem]

set_option maxHeartbeats 1600000 in
theorem concat_any (a0 b0 : Option Addr) (la ca lb cb : Nat) (sa sb : List ByteArray) (w : World) (hla : la ≤ maxLen) (hlb : lb ≤ maxLen) (hA : StrsAt w a0 la sa) (hB : StrsAt w b0 lb sb) :
    Calls Try.prog 9 #[.slice a0 la ca, .slice b0 lb cb] w fun e w' => e = .returned (.bool true) ∧ Below w.heap.size w w' := by
  have hla' := hla
  have hlb' := hlb
  unfold maxLen at hla' hlb'
  by_cases hbig : 65536 < la ∨ 65536 < lb
  · rcases hbig with hbig | hbig
    · go_enter Try.func9, Try.ntmps9
      go_wp2_with fail
      refine (zzTwo_any a0 b0 la ca lb cb sa sb _ hla hlb hA hB).mono ?_
      rintro e w' ⟨rfl | rfl, rfl⟩
      · go_wp2
        go_ret
        exact ⟨rfl, Below.refl _ _⟩
      · go_wp2
        go_ret
        exact ⟨rfl, Below.refl _ _⟩
    · go_enter Try.func9, Try.ntmps9
      go_wp2_with fail
      refine (zzTwo_any a0 b0 la ca lb cb sa sb _ hla hlb hA hB).mono ?_
      rintro e w' ⟨rfl | rfl, rfl⟩
      · go_wp2
        go_ret
        exact ⟨rfl, Below.refl _ _⟩
      · go_wp2
        all_goals
          go_ret
          exact ⟨rfl, Below.refl _ _⟩
  have h1 : la ≤ 65536 := by omega
  have h2 : lb ≤ 65536 := by omega
  clear hbig
  go_enter Try.func9, Try.ntmps9
  go_wp2_with fail
  refine (zzTwo_any a0 b0 la ca lb cb sa sb _ hla hlb hA hB).mono ?_
  rintro e w' ⟨rfl | rfl, rfl⟩
  · go_wp2
    go_ret
    exact ⟨rfl, Below.refl _ _⟩
  go_wp2_with fail
  refine (textBytes_any a0 la ca sa _ hla hA).mono ?_
  rintro e w1 ⟨n, rfl, hn0, hn1, rfl⟩
  go_wp2_with fail
  refine (textBytes_any b0 lb cb sb _ hlb hB).mono ?_
  rintro e w2 ⟨m, rfl, hm0, hm1, rfl⟩
  by_cases hnm : 1048576 < n + m
  · go_wp2
    go_ret
    exact ⟨rfl, Below.refl _ _⟩
  go_wp2_with fail
  refine (partsOf_lone a0 la ca sa _ h1 hA).mono ?_
  rintro e w3 ⟨v3, rfl, hv3, hb3⟩
  go_wp2_with fail
  refine (zzShown_any v3 _ _ hv3).mono ?_
  rintro e w4 ⟨rfl, hb4⟩
  have hc4 := hb3.trans (hb4.mono hb3.size)
  have hA4 := hA.below hc4 (Nat.le_refl _)
  have hB4 := hB.below hc4 (Nat.le_refl _)
  clear hv3 hb3 hb4 hA hB
  go_wp2_with fail
  refine (partsOf_lone b0 lb cb sb _ h2 hB4).mono ?_
  rintro e w5 ⟨v5, rfl, hv5, hb5⟩
  go_wp2_with fail
  refine (zzShown_any v5 _ _ hv5).mono ?_
  rintro e w6 ⟨rfl, hb6⟩
  have hc6 := hb5.trans (hb6.mono hb5.size)
  have hA6 := hA4.below hc6 (Nat.le_refl _)
  have hB6 := hB4.below hc6 (Nat.le_refl _)
  have hd6 := hc4.trans (hc6.mono hc4.size)
  clear hv5 hb5 hb6 hA4 hB4 hc4 hc6
  go_wp2_with fail
  refine (partsOf_any a0 b0 la ca lb cb sa sb _ h1 h2 hA6 hB6).mono ?_
  rintro e w7 ⟨v7, rfl, hv7, hb7⟩
  go_wp2_with fail
  refine (zzShown_any v7 _ _ hv7).mono ?_
  rintro e w8 ⟨rfl, hb8⟩
  have hc8 := hb7.trans (hb8.mono hb7.size)
  have hA8 := hA6.below hc8 (Nat.le_refl _)
  have hB8 := hB6.below hc8 (Nat.le_refl _)
  have hd8 := hd6.trans (hc8.mono hd6.size)
  clear hv7 hb7 hb8 hA6 hB6 hc8 hd6
  have hpa := holds_any a0 la ca sa ⟨#[116, 101, 120, 116, 47, 112, 108, 97, 105, 110]⟩ w8 (by omega) hA8
  have hpb := holds_any b0 lb cb sb ⟨#[116, 101, 120, 116, 47, 112, 108, 97, 105, 110]⟩ w8 (by omega) hB8
  have hha := holds_any a0 la ca sa ⟨#[116, 101, 120, 116, 47, 104, 116, 109, 108]⟩ w8 (by omega) hA8
  have hhb := holds_any b0 lb cb sb ⟨#[116, 101, 120, 116, 47, 104, 116, 109, 108]⟩ w8 (by omega) hB8
  rw [hold_of (l := plainL) _ (by rw [ByteArray.toList_eq]; rfl)] at hpa hpb
  rw [hold_of (l := htmlL) _ (by rw [ByteArray.toList_eq]; rfl)] at hha hhb
  have ba := shown_bounds (typesOf sa la)
  have bb := shown_bounds (typesOf sb lb)
  have la1 := typesOf_length hA8.1
  have lb1 := typesOf_length hB8.1
  rw [la1] at ba
  rw [lb1] at bb
  have c1 := cat_plain_a (typesOf sa la) (typesOf sb lb) 0 (-1)
  have c2 := cat_plain_b (typesOf sa la) (typesOf sb lb) 0 (-1)
  have c3 := cat_html_a (typesOf sa la) (typesOf sb lb) 0 (-1)
  have c4 := cat_html_b (typesOf sa la) (typesOf sb lb) 0 (-1)
  have c5 := shownFrom_zero (typesOf sa la ++ typesOf sb lb) 0 (-1)
  rw [la1, Nat.zero_add] at c2 c4
  rw [List.mem_append, List.mem_append] at c5
  clear la1 lb1 hA8 hB8
  generalize typesOf sa la = ta at *
  generalize typesOf sb lb = tb at *
  generalize shownFrom 0 (-1) ta = ra at *
  generalize shownFrom 0 (-1) tb = rb at *
  generalize shownFrom 0 (-1) (ta ++ tb) = rab at *
  have Hpa := hide hpa
  have Hpb := hide hpb
  have Hha := hide hha
  have Hhb := hide hhb
  have C := hide (And.intro c1 (And.intro c2 (And.intro c3 (And.intro c4 c5))))
  clear hpa hpb hha hhb c1 c2 c3 c4 c5
  by_cases p1 : plainL ∈ ta
  · obtain rfl := C.out.1 p1
    rw [decide_eq_true p1] at Hpa
    clear C Hpb Hha Hhb
    go_wp2_with fail
    refine Hpa.out.mono ?_
    rintro e w9 ⟨rfl, rfl⟩
    go_wp2
    go_ret
    exact ⟨rfl, hd8⟩
  rw [decide_eq_false p1] at Hpa
  by_cases p2 : plainL ∈ tb
  · obtain rfl := C.out.2.1 p1 p2
    rw [decide_eq_true p2] at Hpb
    clear C Hha Hhb
    go_wp2_with fail
    refine Hpa.out.mono ?_
    rintro e w9 ⟨rfl, rfl⟩
    go_wp2_with fail
    refine Hpb.out.mono ?_
    rintro e w9 ⟨rfl, rfl⟩
    go_wp2
    go_ret
    exact ⟨rfl, hd8⟩
  rw [decide_eq_false p2] at Hpb
  by_cases p3 : htmlL ∈ ta
  · obtain rfl := C.out.2.2.1 p1 p2 (by omega) p3
    rw [decide_eq_true p3] at Hha
    clear C Hhb
    go_wp2_with fail
    refine Hpa.out.mono ?_
    rintro e w9 ⟨rfl, rfl⟩
    go_wp2_with fail
    refine Hpb.out.mono ?_
    rintro e w9 ⟨rfl, rfl⟩
    go_wp2_with fail
    refine Hha.out.mono ?_
    rintro e w9 ⟨rfl, rfl⟩
    go_wp2
    go_ret
    exact ⟨rfl, hd8⟩
  rw [decide_eq_false p3] at Hha
  by_cases p4 : htmlL ∈ tb
  · obtain rfl := C.out.2.2.2.1 p1 p2 (by omega) p3 p4
    rw [decide_eq_true p4] at Hhb
    clear C
    go_wp2_with fail
    refine Hpa.out.mono ?_
    rintro e w9 ⟨rfl, rfl⟩
    go_wp2_with fail
    refine Hpb.out.mono ?_
    rintro e w9 ⟨rfl, rfl⟩
    go_wp2_with fail
    refine Hha.out.mono ?_
    rintro e w9 ⟨rfl, rfl⟩
    go_wp2_with fail
    refine Hhb.out.mono ?_
    rintro e w9 ⟨rfl, rfl⟩
    go_wp2
    go_ret
    exact ⟨rfl, hd8⟩
  rw [decide_eq_false p4] at Hhb
  obtain rfl := C.out.2.2.2.2 (by rintro (h | h); exact p1 h; exact p2 h) (by omega) (by rintro (h | h); exact p3 h; exact p4 h)
  clear C
  go_wp2_with fail
  refine Hpa.out.mono ?_
  rintro e w9 ⟨rfl, rfl⟩
  go_wp2_with fail
  refine Hpb.out.mono ?_
  rintro e w9 ⟨rfl, rfl⟩
  go_wp2_with fail
  refine Hha.out.mono ?_
  rintro e w9 ⟨rfl, rfl⟩
  go_wp2_with fail
  refine Hhb.out.mono ?_
  rintro e w9 ⟨rfl, rfl⟩
  go_wp2
  go_ret
  exact ⟨rfl, hd8⟩
end Go.Proofs.Qxb6603932a
