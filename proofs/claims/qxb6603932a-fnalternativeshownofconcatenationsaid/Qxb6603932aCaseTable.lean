/-
  FnAlternativeShownCaseTable (8): the walk. By an AI agent.
-/
import Derived.Test.Qxb6603932aShownPlain
namespace Go.Proofs.Qxb6603932a
open Go.ChangeShapes Go.WideShapes Go.ChangeAt Go.RowKit

/-- A fact kept from the walk. -/
theorem hide {p : Prop} (h : p) : Hid p := h

/-- The strings as lists of bytes. -/
def typesOf (ss : List ByteArray) (n : Nat) : List (List UInt8) := (ss.map (·.toList)).take n

theorem typesOf_length {ss : List ByteArray} {n : Nat} (h : n ≤ ss.length) : (typesOf ss n).length = n := by
  simp [typesOf]; omega

theorem typesOf_at {ss : List ByteArray} {n i : Nat} (hi : i < n) (h : n ≤ ss.length) : (typesOf ss n)[i]? = some (ss.getD i ByteArray.empty).toList := by
  unfold typesOf
  rw [List.getElem?_take, if_pos hi, map_at (by omega)]
  rfl

theorem typesOf_take {ss : List ByteArray} {n p : Nat} (h : p ≤ n) : (typesOf ss n).take p = (ss.map (·.toList)).take p := by
  unfold typesOf
  rw [List.take_take, Nat.min_eq_left h]

theorem partsOf_one (a0 : Option Addr) (la ca : Nat) (sa : List ByteArray) (w : World) (ha : la ≤ 65536) (hne : 0 < la) (hA : StrsAt w a0 la sa) :
    Calls Try.prog 22 #[.slice a0 la ca, .slice none 0 0] w fun e w' => e = .returned (.slice (some ⟨w.heap.size, 0, none⟩) la la) ∧ PartsRow w' w.heap.size la (fun i => sa.getD i ByteArray.empty) ∧ Below w.heap.size w w' := by
  refine (partsOf_some a0 none la ca 0 0 sa [] w ha (by omega) (by omega) hA ⟨by simp, fun j hj => by omega⟩).mono ?_
  rintro e w' ⟨rfl, hrow, hb⟩
  exact ⟨rfl, partsRow_congr hrow (fun i hi => by simp [upTo, hi]), hb⟩

set_option maxHeartbeats 800000 in
theorem caseTable_any (a0 : Option Addr) (len cap : Nat) (ss : List ByteArray) (w : World) (hl : len ≤ maxLen) (hlc : len ≤ cap) (hS : StrsAt w a0 len ss) :
    Calls Try.prog 8 #[.slice a0 len cap] w fun e w' => e = .returned (.bool true) ∧ Below w.heap.size w w' := by
  have hl' := hl
  unfold maxLen at hl'
  by_cases hbig : 65536 < len
  · go_enter Try.func8, Try.ntmps8
    go_wp2_with fail
    refine (zzOne_any a0 len cap ss _ hl hS).mono ?_
    rintro e w' ⟨r, rfl, rfl⟩
    cases r
    · go_wp2
      go_ret
      exact ⟨rfl, Below.refl _ _⟩
    · go_wp2
      go_ret
      exact ⟨rfl, Below.refl _ _⟩
  · go_enter Try.func8, Try.ntmps8
    go_wp2_with fail
    refine (zzOne_any a0 len cap ss _ hl hS).mono ?_
    rintro e w' ⟨r, rfl, rfl⟩
    cases r
    · go_wp2
      go_ret
      exact ⟨rfl, Below.refl _ _⟩
    go_wp2_with fail
    refine (textBytes_any a0 len cap ss _ hl hS).mono ?_
    rintro e w' ⟨n, rfl, hn0, hn1, rfl⟩
    by_cases hn : 1048576 < n
    · go_wp2
      go_ret
      exact ⟨rfl, Below.refl _ _⟩
    by_cases h0 : len = 0
    · subst h0
      go_wp2_with fail
      refine (partsOf_none a0 none cap 0 _).mono ?_
      rintro e w' ⟨rfl, rfl⟩
      go_wp2_with fail
      refine (zzShown_none _).mono ?_
      rintro e w' ⟨rfl, rfl⟩
      go_wp2
      go_ret
      exact ⟨rfl, Below.refl _ _⟩
    go_wp2_with fail
    refine (partsOf_one a0 len cap ss _ (by omega) (by omega) hS).mono ?_
    rintro e w1 ⟨rfl, hrow, hb1⟩
    go_wp2_with fail
    refine (zzShown_some _ len _ (typesOf ss len) _ (by omega) (typesOf_length hS.1) (fun i hi => typesOf_at hi hS.1) hrow).mono ?_
    rintro e w2 ⟨rfl, hb2⟩
    have hb : Below w'.heap.size w' w2 := hb1.trans (hb2.mono hb1.size)
    have hS2 : StrsAt w2 a0 len ss := hS.below hb (Nat.le_refl _)
    clear hrow hb1 hb2 hS
    by_cases hp : plainL ∈ typesOf ss len
    · obtain ⟨p, e1, e2, e3⟩ := shownFrom_plain (typesOf ss len) 0 (-1) hp
      have hpl : p < len := by
        have := (List.getElem?_eq_some_iff.1 e2).1
        rw [typesOf_length hS2.1] at this
        exact this
      rw [typesOf_at hpl hS2.1] at e2
      rw [e1, Nat.zero_add]
      obtain ⟨b, off, rfl, hbl, hc, hs⟩ := hS2.2 p hpl
      have hno := holds_any (some ⟨b, off, none⟩) p cap ss ⟨#[116, 101, 120, 116, 47, 112, 108, 97, 105, 110]⟩ w2 (by omega) (hS2.take (by omega))
      rw [show holdsB ss p ⟨#[116, 101, 120, 116, 47, 112, 108, 97, 105, 110]⟩ = false from holdsB_not.2 (by rw [ByteArray.toList_eq, ← typesOf_take (n := len) (by omega)]; exact e3)] at hno
      have Hno := hide hno
      clear hno e1 e3 hp hS2
      obtain ⟨s, Hs⟩ : ∃ s, Hid (s = ss.getD p ByteArray.empty) := ⟨_, rfl⟩
      rw [← Hs.out] at hc hs e2
      have e2' : (s.toList == [116, 101, 120, 116, 47, 112, 108, 97, 105, 110]) = true := by rw [Option.some.inj e2]; rfl
      clear e2
      go_wp2_with fail
      refine Hno.out.mono ?_
      rintro e w3 ⟨rfl, rfl⟩
      go_wp2
      go_ret
      exact ⟨rfl, hb⟩
    have hnp : ∀ w, StrsAt w a0 len ss → Hid (Calls Try.prog 23 #[.slice a0 len cap, .string ⟨#[116, 101, 120, 116, 47, 112, 108, 97, 105, 110]⟩] w fun e w' => e = .returned (.bool false) ∧ w' = w) := by
      intro w hS
      have := holds_any a0 len cap ss ⟨#[116, 101, 120, 116, 47, 112, 108, 97, 105, 110]⟩ w (by omega) hS
      rw [show holdsB ss len ⟨#[116, 101, 120, 116, 47, 112, 108, 97, 105, 110]⟩ = false from holdsB_not.2 (by rw [ByteArray.toList_eq]; exact hp)] at this
      exact this
    have Hnp := hnp w2 hS2
    clear hnp
    by_cases hq : htmlL ∈ typesOf ss len
    · obtain ⟨p, e1, e2, e3⟩ := shownFrom_html (typesOf ss len) 0 (-1) hp (by omega) hq
      have hpl : p < len := by
        have := (List.getElem?_eq_some_iff.1 e2).1
        rw [typesOf_length hS2.1] at this
        exact this
      rw [typesOf_at hpl hS2.1] at e2
      rw [e1, Nat.zero_add]
      obtain ⟨b, off, rfl, hbl, hc, hs⟩ := hS2.2 p hpl
      have hno := holds_any (some ⟨b, off, none⟩) p cap ss ⟨#[116, 101, 120, 116, 47, 104, 116, 109, 108]⟩ w2 (by omega) (hS2.take (by omega))
      rw [show holdsB ss p ⟨#[116, 101, 120, 116, 47, 104, 116, 109, 108]⟩ = false from holdsB_not.2 (by rw [ByteArray.toList_eq, ← typesOf_take (n := len) (by omega)]; exact e3)] at hno
      have Hno := hide hno
      clear hno e1 e3 hp hq hS2
      obtain ⟨s, Hs⟩ : ∃ s, Hid (s = ss.getD p ByteArray.empty) := ⟨_, rfl⟩
      rw [← Hs.out] at hc hs e2
      have e2' : (s.toList == [116, 101, 120, 116, 47, 104, 116, 109, 108]) = true := by rw [Option.some.inj e2]; rfl
      have e2'' : (s.toList == [116, 101, 120, 116, 47, 112, 108, 97, 105, 110]) = false := by rw [Option.some.inj e2]; rfl
      clear e2
      go_wp2_with fail
      refine Hnp.out.mono ?_
      rintro e w3 ⟨rfl, rfl⟩
      go_wp2_with fail
      refine Hno.out.mono ?_
      rintro e w4 ⟨rfl, rfl⟩
      go_wp2
      go_ret
      exact ⟨rfl, hb⟩
    · have e1 := shownFrom_zero (typesOf ss len) 0 (-1) hp (by omega) hq
      rw [e1]
      have hpl : 0 < len := by omega
      have Hno : Hid (Calls Try.prog 23 #[.slice a0 len cap, .string ⟨#[116, 101, 120, 116, 47, 104, 116, 109, 108]⟩] w2 fun e w' => e = .returned (.bool false) ∧ w' = w2) := by
        have := holds_any a0 len cap ss ⟨#[116, 101, 120, 116, 47, 104, 116, 109, 108]⟩ w2 (by omega) hS2
        rw [show holdsB ss len ⟨#[116, 101, 120, 116, 47, 104, 116, 109, 108]⟩ = false from holdsB_not.2 (by rw [ByteArray.toList_eq]; exact hq)] at this
        exact this
      have e2 := typesOf_at (ss := ss) hpl hS2.1
      obtain ⟨b, off, rfl, hbl, hc, hs⟩ := hS2.2 0 hpl
      obtain ⟨s, Hs⟩ : ∃ s, Hid (s = ss.getD 0 ByteArray.empty) := ⟨_, rfl⟩
      rw [← Hs.out] at hc hs e2
      rw [Nat.add_zero] at hc
      have e3 : (s.toList == [116, 101, 120, 116, 47, 104, 116, 109, 108]) = false := beq_eq_false_iff_ne.2 fun e => hq (List.mem_of_getElem? (i := 0) (by rw [e2, e]; rfl))
      have e4 : (s.toList == [116, 101, 120, 116, 47, 112, 108, 97, 105, 110]) = false := beq_eq_false_iff_ne.2 fun e => hp (List.mem_of_getElem? (i := 0) (by rw [e2, e]; rfl))
      clear e2 e1 hp hq hS2
      go_wp2_with fail
      refine Hnp.out.mono ?_
      rintro e w3 ⟨rfl, rfl⟩
      go_wp2_with fail
      refine Hno.out.mono ?_
      rintro e w4 ⟨rfl, rfl⟩
      go_wp2
      go_ret
      exact ⟨rfl, hb⟩
end Go.Proofs.Qxb6603932a
