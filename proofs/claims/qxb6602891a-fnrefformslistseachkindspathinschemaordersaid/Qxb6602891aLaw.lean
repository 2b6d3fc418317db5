/-
  FnRefFormsListsEachKindsPathInSchemaOrder (5): the walk. By an AI agent.
-/
import Derived.Test.Qxb6602891aZZ
import Derived.Test.Qxb6602891aWant
namespace Go.Proofs.Qxb6602891a
open Go.RowKit
set_option linter.unusedVariables false

set_option maxHeartbeats 800000 in
theorem law_any (a0 b0 : Option Addr) (n cn m cm : Nat) (ss : List ByteArray) (ps : List Int) (w : World) (hn : n ≤ maxLen) (hm : m ≤ maxLen) (hS : StrsAt w a0 n ss) (hP : IntsAt w b0 m ps) :
    Calls Try.prog 5 #[.slice a0 n cn, .slice b0 m cm] w fun e w' => e = .returned (.bool true) ∧ Below w.heap.size w w' := by
  obtain ⟨L, HL⟩ : ∃ L, Hid (L = wantL (formOf (fun i => ss.getD i ByteArray.empty) (par ps m)) n n) := ⟨_, rfl⟩
  go_enter Try.func5, Try.ntmps5
  go_wp2_with fail
  refine (zz16_any a0 b0 n cn m cm ss _ hn hm hS).mono ?_
  rintro e w0 ⟨rfl | rfl, rfl⟩
  · go_wp2_with fail
    go_ret
    exact ⟨rfl, Below.refl _ _⟩
  go_wp2_with fail
  refine (outside_any a0 b0 n cn m cm ss ps _ hn hm hS hP).mono ?_
  rintro e w1 ⟨rfl | ⟨rfl, hG⟩, hb1⟩
  · go_wp2_with fail
    go_ret
    exact ⟨rfl, hb1⟩
  have hn' := hG.most
  have hm' := hG.mostP
  have HG := hide hG
  have hS1 := hS.below hb1 (Nat.le_refl _)
  have hP1 := hP.below hb1 (Nat.le_refl _)
  clear hG hS hP
  go_wp2_with fail
  refine (cloneStrs_any a0 n cn ss _ (by omega) hS1).mono ?_
  rintro e w2 ⟨a1, c1, rfl, hS2, hb2⟩
  have hP2 := hP1.below hb2 (Nat.le_refl _)
  have hd2 := hb1.trans (hb2.mono hb1.size)
  clear hS1 hP1 hb1 hb2
  go_wp2_with fail
  refine (cloneInts_any b0 m cm ps _ (by omega) hP2).mono ?_
  rintro e w3 ⟨b1, c2, rfl, hP3, hb3⟩
  have hS3 := hS2.below hb3 (Nat.le_refl _)
  have hd3 := hd2.trans (hb3.mono hd2.size)
  clear hS2 hP2 hd2 hb3
  go_wp2_with fail
  refine (zz_any a1 b1 n c1 m c2 ss ps _ HG.out hS3 hP3).mono ?_
  rintro e w4 ⟨rfl, hb4⟩
  rw [← HL.out]
  have hS4 := hS3.below hb4 (Nat.le_refl _)
  have hP4 := hP3.below hb4 (Nat.le_refl _)
  have hd4 := hd3.trans (hb4.mono hd3.size)
  clear hS3 hP3 hd3 hb4
  go_wp2_with fail
  refine (want_any a1 b1 n c1 m c2 ss ps _ HG.out hS4 hP4).mono ?_
  rintro e w5 ⟨rfl, hb5⟩
  rw [← HL.out]
  have hd5 := hd4.trans (hb5.mono hd4.size)
  clear hS4 hP4 hd4 hb5
  go_wp2_with fail
  go_ret
  exact ⟨rfl, hd5⟩
end Go.Proofs.Qxb6602891a
