/-
  rfOutside (17): what its 'false' says. By an AI agent.
-/
import Derived.Test.Qxb6602891aClones
namespace Go.Proofs.Qxb6602891a
open Go.ChangeShapes Go.WideShapes Go.ChangeAt Go.RowKit
set_option linter.unusedVariables false

/-- What rfOutside lets in (as much of it as the law's proof needs). -/
structure Good (ss : List ByteArray) (n : Nat) (ps : List Int) (m : Nat) : Prop where
  pos : 1 ≤ n
  most : n ≤ 4096
  mostP : m ≤ 4096
  size : ∀ j, j < n → (ss.getD j ByteArray.empty).size ≤ 1048576
  up : ∀ j, j < n → par ps m j < j

set_option maxHeartbeats 1600000 in
set_option maxRecDepth 100000 in
theorem outside_any (a0 b0 : Option Addr) (n cn m cm : Nat) (ss : List ByteArray) (ps : List Int) (w : World) (hn : n ≤ maxLen) (hm : m ≤ maxLen) (hS : StrsAt w a0 n ss) (hP : IntsAt w b0 m ps) :
    Calls Try.prog 17 #[.slice a0 n cn, .slice b0 m cm] w fun e w' => (e = .returned (.bool true) ∨ e = .returned (.bool false) ∧ Good ss n ps m) ∧ Below w.heap.size w w' := by
  have hm' := hm
  unfold maxLen at hn hm
  by_cases h1 : 4096 < n
  · go_enter Try.func17, Try.ntmps17
    go_wp2
    go_ret
    exact ⟨.inl rfl, Below.refl _ _⟩
  by_cases h2 : 4096 < m
  · go_enter Try.func17, Try.ntmps17
    go_wp2
    go_ret
    exact ⟨.inl rfl, Below.refl _ _⟩
  have hmk := make_ints n (by omega)
  have hz := rowIs_zeros w (.int .i64 0) n 3
  have hbel : Below w.heap.size w (w.alloc (.cells (zeros (.int .i64 0) n) 3)) := (Below.refl _ _).alloc (Nat.le_refl _) _
  have HZ := hide (And.intro hmk (And.intro hz hbel))
  clear hmk hz hbel
  go_enter Try.func17, Try.ntmps17
  go_wp2
  go_loop [5, 6] (fun t i => ∃ k : Nat, k ≤ n ∧ i = .int .i64 k ∧ ∃ q : Nat, q ≤ 1048576 ∧ t = .int .i64 q ∧ Hid (∀ j, j < k → (ss.getD j ByteArray.empty).size ≤ 1048576)) (fun _ i => n - (intOf i).toNat)
  case atStart => exact ⟨0, Nat.zero_le _, rfl, 8 * m + 16 * n, by omega, by go_num, fun j hj => by omega⟩
  case round =>
    obtain ⟨k, hk, rfl, q, hq, rfl, HS⟩ := hrel
    by_cases hlt : k < n
    · obtain ⟨b, off, rfl, hb, hc, hs⟩ := hS.2 k hlt
      unfold maxLen at hs
      obtain ⟨s, Hs⟩ : ∃ s, Hid (s = ss.getD k ByteArray.empty) := ⟨_, rfl⟩
      rw [← Hs.out] at hc hs
      by_cases hsb : 1048576 < s.size + q
      · go_wp2
        go_ret
        exact ⟨.inl rfl, Below.refl _ _⟩
      · have HN : Hid (∀ j, j < k + 1 → (ss.getD j ByteArray.empty).size ≤ 1048576) := fun j hj => by
          by_cases e : j = k
          · subst e; rw [← Hs.out]; omega
          · exact HS.out j (by omega)
        go_wp2
        go_round
        case rel => exact ⟨k + 1, by omega, by go_num, q + s.size, by omega, by go_num, HN⟩
        case measure => simp [intOf]; omega
    · have hkn : k = n := by omega
      subst hkn
      by_cases h0 : k = 0
      · go_wp2
        go_ret
        exact ⟨.inl rfl, Below.refl _ _⟩
      have hpos : 1 ≤ k := by omega
      go_wp2
      go_loop [7] (fun i => ∃ j : Nat, j ≤ k ∧ i = .int .i64 j ∧ Hid (∀ y, y < j → par ps m y < y)) (fun i => k - (intOf i).toNat)
      case atStart => exact ⟨0, Nat.zero_le _, rfl, fun y hy => by omega⟩
      case round =>
        obtain ⟨j, hj, rfl, HU⟩ := hrel
        by_cases hlt2 : j < k
        · go_wp2_with fail
          refine (parent_any b0 m cm ps j _ hm' (by omega) hP).mono ?_
          rintro e w' ⟨rfl, rfl⟩
          obtain ⟨p, Hp⟩ : ∃ p, Hid (p = par ps m j) := ⟨_, rfl⟩
          have hpg := par_ge ps m j
          rw [← Hp.out] at hpg ⊢
          by_cases hpj : (j : Int) ≤ p
          · go_wp2
            go_ret
            exact ⟨.inl rfl, Below.refl _ _⟩
          · have HN : Hid (∀ y, y < j + 1 → par ps m y < y) := fun y hy => by
              by_cases e : y = j
              · subst e; rw [← Hp.out]; omega
              · exact HU.out y (by omega)
            go_wp2
            go_round
            case rel => exact ⟨j + 1, by omega, by go_num, HN⟩
            case measure => simp [intOf]; omega
        · have hjn : j = k := by omega
          subst hjn
          have hmk := HZ.out.1
          go_wp2
          clear hmk
          go_loopw [9, 10] (fun o i wr => ∃ (y : Nat) (q : Int) (f : Nat → Int), y ≤ j ∧ i = .int .i64 y ∧ o = .int .i64 q ∧ 0 ≤ q ∧ q ≤ 4194304 ∧ Hid (∀ x, 0 ≤ f x ∧ f x ≤ 4194304) ∧ wr.rowIs w.heap.size 3 j (fun x => .int .i64 (f x)) ∧ Below w.heap.size w wr) (fun _ i _ => j - (intOf i).toNat)
          case atStart => exact ⟨0, 0, fun _ => 0, Nat.zero_le _, rfl, rfl, by omega, by omega, fun _ => ⟨Int.le_refl 0, (by decide : (0 : Int) ≤ 4194304)⟩, HZ.out.2.1, HZ.out.2.2⟩
          case round =>
            obtain ⟨y, q, f, hy, rfl, rfl, hq0, hq1, HF, hrow, hbw⟩ := hrel
            by_cases hlt3 : y < j
            · obtain ⟨b, off, rfl, hb, hc, hs⟩ := hS.2 y hlt3
              have hsz := HS.out y hlt3
              obtain ⟨s, Hs⟩ : ∃ s, Hid (s = ss.getD y ByteArray.empty) := ⟨_, rfl⟩
              rw [← Hs.out] at hc hsz
              have hc' : wr.cell? ⟨b, off + y, none⟩ = some (.string s) := by rw [hbw.cell (p := ⟨b, off + y, none⟩) hb]; exact hc
              have hPr := hP.below hbw (Nat.le_refl _)
              have hup := HU.out y hlt3
              have hpg := par_ge ps m y
              clear hc hs
              go_wp2_with fail
              refine (parent_any b0 m cm ps y _ hm' (by omega) hPr).mono ?_
              rintro e w' ⟨rfl, rfl⟩
              obtain ⟨p, Hp⟩ : ∃ p, Hid (p = par ps m y) := ⟨_, rfl⟩
              rw [← Hp.out] at hpg hup ⊢
              clear hPr
              have HR := hide hrow
              have hcy := hrow.cell hlt3
              have hfy := hrow.frozen y
              have fin : ∀ l : Int, 0 ≤ l → l ≤ 4194304 → (w'.setCell ⟨w.heap.size, y, none⟩ (.int .i64 l)).rowIs w.heap.size 3 j (fun x => .int .i64 (if x = y then l else f x)) ∧ (∀ x, 0 ≤ (if x = y then l else f x) ∧ (if x = y then l else f x) ≤ 4194304) ∧ Below w.heap.size w (w'.setCell ⟨w.heap.size, y, none⟩ (.int .i64 l)) := by
                intro l l0 l1
                refine ⟨(HR.out.set y (.int .i64 l)).congr (fun x _ => ?_), fun x => ?_, hbw.setCell (p := ⟨w.heap.size, y, none⟩) (Nat.le_refl _) _⟩
                · by_cases e : x = y
                  · rw [if_pos e, if_pos e]
                  · rw [if_neg e, if_neg e]
                · by_cases e : x = y
                  · rw [if_pos e]; exact ⟨l0, l1⟩
                  · rw [if_neg e]; exact HF.out x
              have FIN := hide fin
              clear fin
              by_cases hp0 : 0 ≤ p
              · obtain ⟨pn, rfl⟩ := Int.eq_ofNat_of_zero_le hp0
                have hpj : pn < j := by omega
                have hcp := hrow.cell hpj
                have hfp := HF.out pn
                obtain ⟨lp, Hlp⟩ : ∃ lp, Hid (lp = f pn) := ⟨_, rfl⟩
                rw [← Hlp.out] at hcp hfp
                clear hrow
                by_cases hl : 4194304 < (s.size : Int) + 7 + (lp + 1)
                · go_wp2
                  go_ret
                  exact ⟨.inl rfl, hbw⟩
                · obtain ⟨g1, g2, g3⟩ := FIN.out ((s.size : Int) + 7 + (lp + 1)) (by omega) (by omega)
                  have G := hide (And.intro g1 (And.intro g2 g3))
                  clear g1 g2
                  by_cases ho : 4194304 < q + ((s.size : Int) + 7 + (lp + 1) + 4)
                  · go_wp2
                    go_ret
                    exact ⟨.inl rfl, g3⟩
                  · clear g3
                    go_wp2
                    go_roundw
                    case rel => exact ⟨y + 1, _, _, by omega, by go_num, rfl, by omega, by omega, G.out.2.1, G.out.1, G.out.2.2⟩
                    case measure => simp [intOf]; omega
              · clear hrow
                obtain rfl : p = -1 := by omega
                clear hpg hup hp0
                have hl0 : 0 ≤ (s.size : Int) + 7 := by omega
                have hl : (s.size : Int) + 7 ≤ 1048583 := by omega
                generalize (s.size : Int) + 7 = l at *
                obtain ⟨g1, g2, g3⟩ := FIN.out l (by omega) (by omega)
                have G := hide (And.intro g1 (And.intro g2 g3))
                clear g1 g2
                by_cases ho : 4194304 < q + (l + 4)
                · go_wp2
                  go_ret
                  exact ⟨.inl rfl, g3⟩
                · clear g3
                  go_wp2
                  go_roundw
                  case rel => exact ⟨y + 1, _, _, by omega, by go_num, rfl, by omega, by omega, G.out.2.1, G.out.1, G.out.2.2⟩
                  case measure => simp [intOf]; omega
            · go_wp2
              go_ret
              exact ⟨.inr ⟨rfl, ⟨hpos, by omega, by omega, HS.out, HU.out⟩⟩, hbw⟩
end Go.Proofs.Qxb6602891a
