/-
  b1EscapeThenClose (11): its contract. By an AI agent.
-/
import Derived.Test.Qxb6603932aScan
import Derived.Test.Qxb6603932aScanLaws
import Derived.Laws.IdiomStrings
namespace Go.Proofs.Qxb6603932a
open Go.RowKit

theorem esc_hit {x y c : UInt8} (h : c = 92 ∨ c = x ∨ c = y) (r : List UInt8) : esc x y (c :: r) = 92 :: c :: esc x y r := by rw [esc, if_pos h]
theorem esc_miss {x y c : UInt8} (h : ¬ (c = 92 ∨ c = x ∨ c = y)) (r : List UInt8) : esc x y (c :: r) = c :: esc x y r := by rw [esc, if_neg h]

theorem esc_snoc (x y c : UInt8) : ∀ l, esc x y (l ++ [c]) = esc x y l ++ (if c = 92 ∨ c = x ∨ c = y then [92, c] else [c])
  | [] => by
    by_cases h : c = 92 ∨ c = x ∨ c = y
    · rw [if_pos h, List.nil_append, esc_hit h]; rfl
    · rw [if_neg h, List.nil_append, esc_miss h]; rfl
  | b :: l => by
    rw [List.cons_append]
    by_cases h : b = 92 ∨ b = x ∨ b = y
    · rw [esc_hit h, esc_hit h, esc_snoc x y c l]; rfl
    · rw [esc_miss h, esc_miss h, esc_snoc x y c l]; rfl

theorem esc_len (x y : UInt8) : ∀ l, (esc x y l).length ≤ 2 * l.length
  | [] => by simp [esc]
  | b :: l => by
    have := esc_len x y l
    rw [esc]
    split <;> simp <;> omega

theorem take_snoc (s : ByteArray) (k : Nat) (h : k < s.size) : s.data.toList.take (k + 1) = s.data.toList.take k ++ [s[k]] := by
  rw [List.take_succ_eq_append_getElem (by simpa using h)]; rfl

theorem esc_next {x y : UInt8} {s : ByteArray} {k : Nat} (h : k < s.size) (hc : s[k] = 92 ∨ s[k] = x ∨ s[k] = y) : esc x y (s.data.toList.take (k + 1)) = (esc x y (s.data.toList.take k) ++ [92]) ++ [s[k]] := by
  rw [take_snoc s k h, esc_snoc, if_pos hc]; simp

theorem esc_next_plain {x y : UInt8} {s : ByteArray} {k : Nat} (h : k < s.size) (hc : ¬ (s[k] = 92 ∨ s[k] = x ∨ s[k] = y)) : esc x y (s.data.toList.take (k + 1)) = esc x y (s.data.toList.take k) ++ [s[k]] := by
  rw [take_snoc s k h, esc_snoc, if_neg hc]

theorem take_all (t : ByteArray) : t.data.toList.take t.size = t.data.toList :=
  List.take_of_length_le (by rw [Array.length_toList]; exact Nat.le_refl _)

theorem hideIt2 {p : Prop} (h : p) : Hid p := h

theorem one_cell (w : World) (v : Value) (T : TypeId) : ∀ j u, [v][j]? = some u → (w.alloc (.cells #[v] T)).cell? ((⟨w.heap.size, 0, none⟩ : Addr).add j) = some u := by
  intro j u hj
  match j, hj with
  | 0, hj => simp at hj; subst hj; simp [Addr.add]

theorem one_oneCell (c : Int) : ∀ u ∈ [Value.int .u8 c], u.oneCell' = true := by
  intro u hu; simp at hu; subst hu; rfl

/-- An owned row of bytes, as the conversion to a string reads it. -/
theorem row_string {w : World} {B : Nat} {v : Value} {l : List UInt8} {n : Nat} (h : w.ownsRow B 5 1 v n (Lib.byteCells l)) (hl : l ≠ []) : (convert 35 9 v).run Try.prog w = .ok (.string ⟨l.toArray⟩) w := by
  have hn : n = l.length := by have := h.1; rw [Lib.byteCells_length] at this; omega
  subst hn
  rcases h.2 with ⟨_, h0⟩ | ⟨g, cap, cur, rfl, _, hg, _, _, _, htk⟩
  · exact absurd (List.eq_nil_of_length_eq_zero h0) hl
  · refine run_convert_bytes_back w 35 9 5 ⟨g, 0, none⟩ cap l Try.underlying35 Try.underlying5 Try.underlying9 fun j hj => ?_
    have := h.cellAt j (by omega)
    rw [show (⟨g, 0, none⟩ : Addr).add j = ⟨g, j, none⟩ by simp [Addr.add]; omega, this]
    simp [Lib.byteCells, hj]

theorem own_two {w : World} {B : Nat} {v : Value} {l l' : List UInt8} {c : UInt8} (h : w.ownsRow B 5 1 v (l.length + 1 + 1) (Lib.byteCells l ++ [.int .u8 92, .int .u8 c.toNat])) (e : l' = (l ++ [92]) ++ [c]) : w.ownsRow B 5 1 v l'.length (Lib.byteCells l') := by
  subst e
  rw [cells_snoc, cells_snoc]
  simpa [List.length_append] using h

theorem own_one {w : World} {B : Nat} {v : Value} {l l' : List UInt8} {c : UInt8} (h : w.ownsRow B 5 1 v (l.length + 1) (Lib.byteCells l ++ [.int .u8 c.toNat])) (e : l' = l ++ [c]) : w.ownsRow B 5 1 v l'.length (Lib.byteCells l') := by
  subst e
  rw [cells_snoc]
  simpa [List.length_append] using h

set_option maxHeartbeats 2000000 in
theorem escape_any (t : ByteArray) (x y z : UInt8) (w : World) (ht : t.size ≤ 524288) :
    Calls Try.prog 11 #[.string t, .int .u8 x.toNat, .int .u8 y.toNat, .int .u8 z.toNat] w fun e w' => e = .returned (.string ⟨(esc x y t.data.toList ++ [z]).toArray⟩) ∧ Below w.heap.size w w' := by
  obtain ⟨i0, hi, hz0, hz1, hz2⟩ := info_parts infoByte5
  go_enter Try.func11, Try.ntmps11
  go_wp2_with (at_make; refine wpList_make_own _ rfl _ _ 35 rfl w.heap.size 5 i0 (.int .u8 0) 1 Try.underlying35 hi hz0 hz1 _ _ _ (2 * t.size + 1) rfl rfl (by omega) ?b2 ?b3 (Nat.le_refl _) ?_)
  case b2 => rw [hz2]; omega
  case b3 => unfold maxLen; omega
  intro w1 hown1 hgrow1
  have hbel1 : Below w.heap.size w w1 := (Below.refl _ w).grown hgrow1 (Nat.le_refl _) (fun k hk => by cases hk)
  clear hgrow1
  go_wp2
  go_loopw [9, 10] (fun v i wr => ∃ k : Nat, k ≤ t.size ∧ i = .int .i64 k ∧ wr.ownsRow w.heap.size 5 1 v (esc x y (t.data.toList.take k)).length (Lib.byteCells (esc x y (t.data.toList.take k))) ∧ Below w.heap.size w wr) (fun _ i _ => t.size - (intOf i).toNat)
  case atStart => exact ⟨0, Nat.zero_le _, rfl, by simpa [esc, Lib.byteCells] using hown1, hbel1⟩
  case round =>
    clear hown1 hbel1
    obtain ⟨k, hk, rfl, hown, hbw⟩ := hrel
    have hBw := hbw.size
    have hel := esc_len x y (t.data.toList.take k)
    have htl : (t.data.toList.take k).length ≤ k := List.length_take_le _ _
    by_cases hlt : k < t.size
    · have step : ∀ v1 wr1, wr1.ownsRow w.heap.size 5 1 v1 (esc x y (t.data.toList.take (k + 1))).length (Lib.byteCells (esc x y (t.data.toList.take (k + 1)))) → Below w.heap.size w wr1 →
          (∃ q : Nat, q ≤ t.size ∧ Value.int .i64 ((k : Int) + 1) = .int .i64 q ∧ wr1.ownsRow w.heap.size 5 1 v1 (esc x y (t.data.toList.take q)).length (Lib.byteCells (esc x y (t.data.toList.take q))) ∧ Below w.heap.size w wr1) :=
        fun v1 wr1 h1 h2 => ⟨k + 1, by omega, by go_num, h1, h2⟩
      have ST := hideIt2 step
      clear step
      by_cases hc : t[k] = 92 ∨ t[k] = x ∨ t[k] = y
      · have HX := hideIt2 (esc_next hlt hc)
        have hdec : (((t[k].toNat : Int) == 92) = true) ∨ (((t[k].toNat : Int) == 92) = false ∧ ((t[k].toNat : Int) == (x.toNat : Int)) = true) ∨ (((t[k].toNat : Int) == 92) = false ∧ ((t[k].toNat : Int) == (x.toNat : Int)) = false ∧ ((t[k].toNat : Int) == (y.toNat : Int)) = true) := by
          by_cases e1 : t[k].toNat = 92
          · exact .inl (beq_iff_eq.2 (by omega))
          · right
            by_cases e2 : t[k].toNat = x.toNat
            · exact .inl ⟨beq_eq_false_iff_ne.2 (by omega), beq_iff_eq.2 (by omega)⟩
            · refine .inr ⟨beq_eq_false_iff_ne.2 (by omega), beq_eq_false_iff_ne.2 (by omega), beq_iff_eq.2 ?_⟩
              rcases hc with h | h | h
              · exact absurd (by rw [h]; rfl) e1
              · exact absurd (by rw [h]) e2
              · rw [h]
        clear hc
        rcases hdec with d1 | ⟨d1, d2⟩ | ⟨d1, d2, d3⟩
        all_goals
          go_wp2_with (at_builtin; refine wpList_append_own _ rfl (.tmp 38) (.tmp 39) 35 rfl w.heap.size 5 i0 (.int .u8 0) 1 1 Try.underlying35 hi hz0 hz1 hz2 rfl (by decide) _ _ _ rfl (hown.alloc _) ⟨wr.heap.size, 0, none⟩ 1 1 [.int .u8 92] rfl rfl (one_cell _ _ _) (one_oneCell _) (by unfold maxLen; omega) (by omega) (by simp; omega) ?_)
          intro v2 w2 hown2 hgrow2 _
          have hb2 : Below w.heap.size w w2 := (hbw.alloc hBw _).grown hgrow2 (by simp; omega) (fun k hk => (hown.lt k hk).1)
          have hB2 := hb2.size
          clear hgrow2 hown
          go_wp2_with (at_builtin; refine wpList_append_own _ rfl (.tmp 41) (.tmp 43) 35 rfl w.heap.size 5 i0 (.int .u8 0) 1 1 Try.underlying35 hi hz0 hz1 hz2 rfl (by decide) _ _ _ rfl (hown2.alloc _) ⟨w2.heap.size, 0, none⟩ 1 1 _ rfl rfl (one_cell _ _ _) (one_oneCell _) (by unfold maxLen; omega) (by omega) (by simp; omega) ?_)
          intro v3 w3 hown3 hgrow3 _
          have hb3 : Below w.heap.size w w3 := (hb2.alloc hB2 _).grown hgrow3 (by simp; omega) (fun k hk => (hown2.lt k hk).1)
          have hown4 := own_two hown3 HX.out
          clear hgrow3 hown2 hown3
          go_wp2
          go_roundw
          case rel => exact ST.out _ _ hown4 hb3
          case measure => simp [intOf]; omega
      · have HX := hideIt2 (esc_next_plain hlt hc)
        simp only [not_or] at hc
        have d1 : ((t[k].toNat : Int) == 92) = false := beq_eq_false_iff_ne.2 fun h => hc.1 (byte_eq (n := 92) (by omega) (by decide))
        have d2 : ((t[k].toNat : Int) == (x.toNat : Int)) = false := beq_eq_false_iff_ne.2 fun h => hc.2.1 (UInt8.toNat_inj.1 (by omega))
        have d3 : ((t[k].toNat : Int) == (y.toNat : Int)) = false := beq_eq_false_iff_ne.2 fun h => hc.2.2 (UInt8.toNat_inj.1 (by omega))
        clear hc
        go_wp2_with (at_builtin; refine wpList_append_own _ rfl (.tmp 41) (.tmp 43) 35 rfl w.heap.size 5 i0 (.int .u8 0) 1 1 Try.underlying35 hi hz0 hz1 hz2 rfl (by decide) _ _ _ rfl (hown.alloc _) ⟨wr.heap.size, 0, none⟩ 1 1 _ rfl rfl (one_cell _ _ _) (one_oneCell _) (by unfold maxLen; omega) (by omega) (by simp; omega) ?_)
        intro v3 w3 hown3 hgrow3 _
        have hb3 : Below w.heap.size w w3 := (hbw.alloc hBw _).grown hgrow3 (by simp; omega) (fun k hk => (hown.lt k hk).1)
        have hown4 := own_one hown3 HX.out
        clear hgrow3 hown hown3
        go_wp2
        go_roundw
        case rel => exact ST.out _ _ hown4 hb3
        case measure => simp [intOf]; omega
    · have hkt : k = t.size := by omega
      subst hkt
      rw [take_all] at hown hel htl
      go_wp2_with (at_builtin; refine wpList_append_own _ rfl (.tmp 45) (.tmp 47) 35 rfl w.heap.size 5 i0 (.int .u8 0) 1 1 Try.underlying35 hi hz0 hz1 hz2 rfl (by decide) _ _ _ rfl (hown.alloc _) ⟨wr.heap.size, 0, none⟩ 1 1 _ rfl rfl (one_cell _ _ _) (one_oneCell _) (by unfold maxLen; omega) (by omega) (by simp; omega) ?_)
      intro v3 w3 hown3 hgrow3 _
      have hb3 : Below w.heap.size w w3 := (hbw.alloc hBw _).grown hgrow3 (by simp; omega) (fun k hk => (hown.lt k hk).1)
      have hown4 := own_one hown3 rfl
      have hstr := row_string hown4 (by simp)
      clear hgrow3 hown hown3 hown4
      go_wp2
      go_ret
      exact ⟨rfl, hb3⟩
end Go.Proofs.Qxb6603932a
