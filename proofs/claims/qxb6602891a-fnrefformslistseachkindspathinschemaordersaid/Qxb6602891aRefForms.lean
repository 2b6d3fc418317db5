/-
  (*schema).refForms (27): its contract. By an AI agent.
-/
import Derived.Test.Qxb6602891aForm
import Derived.Test.Qxb6602891aJoin
import Derived.Deep.RegionWith
namespace Go.Proofs.Qxb6602891a
open Go.RowKit
set_option linter.unusedVariables false

theorem Kinds.below {w w' : World} {K n B : Nat} {nb : Nat → ByteArray} {pr : Nat → Int} (h : Kinds w K n nb pr) (hb : Below B w w') (hB : w.heap.size ≤ B) : Kinds w' K n nb pr :=
  fun i hi => (h i hi).of_block (hb.block _ (Nat.lt_of_lt_of_le (h i hi).lt hB))

theorem below_drawn {B : Nat} {w w' : World} (h : Below B w w') (n : Nat) : Below B w (w'.drewN n) := ⟨h.os, h.tape, h.output, h.size, h.block⟩

/-- Form j, whole. -/
def formOf (nb : Nat → ByteArray) (pr : Nat → Int) (j : Nat) : List UInt8 := formF (nml nb) pr 4097 j

/-- forms' cells behind k rounds. -/
def formCell (nb : Nat → ByteArray) (pr : Nat → Int) (k j : Nat) : Value := if j < k then .string ⟨(formOf nb pr j).toArray⟩ else .string ByteArray.empty

theorem formCell_set (nb : Nat → ByteArray) (pr : Nat → Int) (k j : Nat) : (if j = k then Value.string ⟨(formOf nb pr k).toArray⟩ else formCell nb pr k j) = formCell nb pr (k + 1) j := by
  unfold formCell
  by_cases e : j = k
  · subst e
    rw [if_pos rfl, if_pos (by omega)]
  · rw [if_neg e]
    by_cases h : j < k
    · rw [if_pos h, if_pos (by omega)]
    · rw [if_neg h, if_neg (by omega)]

theorem formOf_len {nb : Nat → ByteArray} {pr : Nat → Int} {n : Nat} (hn : n ≤ 4096) (hup : ∀ j, j < n → pr j < j) (hsz : ∀ j, j < n → (nb j).size ≤ 1048576) {j : Nat} (hj : j < n) : (formOf nb pr j).length ≤ 4296000000 := by
  have h := formF_length (nm := nml nb) (pr := pr) 1048576 4097 j (by omega) (fun y hy => hup y (by omega)) (fun y hy => by
    have := hsz y (by omega)
    unfold nml
    rw [Array.length_toList]
    exact this)
  have hm : (j + 1) * (1048576 + 8) ≤ 4096 * (1048576 + 8) := Nat.mul_le_mul_right _ (by omega)
  unfold formOf
  omega

theorem want_small {F : Nat → List UInt8} {n k : Nat} (hk : k ≤ 4096) (h : ∀ j, j < k → (F j).length ≤ 4296000000) : (wantL F n k).length ≤ 70368744177664 := by
  obtain ⟨C, hC⟩ : ∃ C, C = 4296000000 := ⟨_, rfl⟩
  rw [← hC] at h
  have h1 := want_length F n C k h
  have h2 : k * (C + 4) ≤ 4096 * (C + 4) := Nat.mul_le_mul_right _ hk
  generalize k * (C + 4) = X at *
  omega

theorem last_string (J Fq : List UInt8) : ({ data := J.toArray } : ByteArray) ++ { data := #[32, 111, 114, 32] } ++ { data := Fq.toArray } = ⟨(J ++ [32, 111, 114, 32] ++ Fq).toArray⟩ := by
  apply ByteArray.ext
  simp [ByteArray.data_append]

set_option maxHeartbeats 1600000 in
set_option maxRecDepth 100000 in
theorem refForms_any (S K n : Nat) (nb : Nat → ByteArray) (pr : Nat → Int) (hn : n ≤ 4096) (hpos : 1 ≤ n) (hup : ∀ j, j < n → pr j < j) (hsz : ∀ j, j < n → (nb j).size ≤ 1048576) (w : World)
    (hS : w.cell? ⟨S, 0, none⟩ = some (.slice (some ⟨K, 0, none⟩) n n)) (hSb : S < w.heap.size) (hrow : w.rowIs K 51 n (fun i => .pointer (some ⟨K + 1 + i, 0, none⟩))) (hK : Kinds w K n nb pr) :
    Calls Try.prog 27 #[.pointer (some ⟨S, 0, none⟩)] w fun e w' => e = .returned (.string ⟨(wantL (formOf nb pr) n n).toArray⟩) ∧ Below w.heap.size w w' := by
  have hKb := hrow.lt
  have hmk := make_strs n (by omega)
  have h0 := rowIs_zeros w (.string ByteArray.empty) n 9
  have hbel : Below w.heap.size w (w.alloc (.cells (zeros (.string ByteArray.empty) n) 9)) := (Below.refl _ _).alloc (Nat.le_refl _) _
  have hS' : (w.alloc (.cells (zeros (.string ByteArray.empty) n) 9)).cell? ⟨S, 0, none⟩ = some (.slice (some ⟨K, 0, none⟩) n n) := by rw [hbel.cell (p := ⟨S, 0, none⟩) hSb]; exact hS
  have H0 := hide (And.intro h0 hbel)
  have HROW := hide hrow
  have HK := hide hK
  clear h0 hbel hrow hK
  go_enter Try.func27, Try.ntmps27
  go_wp2_with fail
  clear hmk hS'
  go_loopw [18] (fun i wr => ∃ k : Nat, k ≤ n ∧ i = .int .i64 k ∧ Hid (wr.rowIs w.heap.size 9 n (formCell nb pr k)) ∧ Hid (Below w.heap.size w wr)) (fun i _ => n - (intOf i).toNat)
  case atStart => exact ⟨0, Nat.zero_le _, rfl, H0.out.1.congr (fun i _ => by simp [formCell]), H0.out.2⟩
  case round =>
    obtain ⟨k, hk, rfl, HR, HB⟩ := hrel
    by_cases hlt : k < n
    · have hck : wr.cell? ⟨K, k, none⟩ = some (.pointer (some ⟨K + 1 + k, 0, none⟩)) := by
        rw [HB.out.cell (p := ⟨K, k, none⟩) hKb]
        exact HROW.out.cell hlt
      have hform := form_any K n nb pr hn hup hsz 4097 k wr (by omega) hlt (HK.out.below HB.out (Nat.le_refl _))
      have HF := hide hform
      have hcell := HR.out.cell hlt
      have hfz := HR.out.frozen k
      clear hform
      go_wp2_with fail
      refine HF.out.mono ?_
      rintro e w1 ⟨rfl, nq, rfl⟩
      rw [show formF (nml nb) pr 4097 k = formOf nb pr k from rfl]
      have hRq : (wr.drewN nq).rowIs w.heap.size 9 n (formCell nb pr k) := HR.out
      have hset := hRq.set k (.string ⟨(formOf nb pr k).toArray⟩)
      have HN : Hid (((wr.drewN nq).setCell ⟨w.heap.size, k, none⟩ (.string ⟨(formOf nb pr k).toArray⟩)).rowIs w.heap.size 9 n (formCell nb pr (k + 1))) := hset.congr (fun j _ => formCell_set nb pr k j)
      clear hset hRq
      go_wp2_with fail
      go_roundw
      case rel => exact ⟨k + 1, by omega, by go_num, HN, (below_drawn HB.out nq).setCell (p := ⟨w.heap.size, k, none⟩) (Nat.le_refl _) _⟩
      case measure => simp [intOf]; omega
    · have hkn : k = n := by omega
      subst hkn
      have hf : ∀ j, j < k → wr.cell? ⟨w.heap.size, j, none⟩ = some (.string ⟨(formOf nb pr j).toArray⟩) := fun j hj => by
        have := HR.out.cell hj
        unfold formCell at this
        rw [if_pos hj] at this
        exact this
      have hrl := HR.out.lt
      by_cases h1 : k = 1
      · have HW : Hid (wantL (formOf nb pr) k k = formOf nb pr 0) := by subst h1; exact want_one _
        have hc := hf 0 (by omega)
        have heq : ((k : Int) - 1 == 0) = true := beq_iff_eq.2 (by omega)
        clear hf h1
        go_wp2_with fail
        go_ret
        refine ⟨?_, HB.out⟩
        rw [HW.out]
        rfl
      · obtain ⟨q, hq⟩ : ∃ q, k = q + 1 := ⟨k - 1, by omega⟩
        have hq1 : 1 ≤ q := by omega
        have HW : Hid (wantL (formOf nb pr) k k = Lib.join ((List.range q).map (formOf nb pr)) [44, 32] ++ [32, 111, 114, 32] ++ formOf nb pr q) := by
          obtain ⟨r, rfl⟩ : ∃ r, q = r + 1 := ⟨q - 1, by omega⟩
          subst hq
          exact want_all _ r
        have hc := hf q (by omega)
        have hF := formOf_len hn hup hsz (j := q) (by omega)
        have hJ : (Lib.join ((List.range q).map (formOf nb pr)) [44, 32]).length ≤ 70368744177664 := by
          rw [← want_join (formOf nb pr) k q (by omega)]
          exact want_small (by omega) (fun j hj => formOf_len hn hup hsz (by omega))
        have hjoin : ∀ W : World, W.heap = wr.heap → Calls Try.prog 30 #[.slice (some ⟨w.heap.size, 0, none⟩) q k, .string ⟨#[44, 32]⟩] W fun e W' => e = .returned (.string ⟨(Lib.join ((List.range q).map (formOf nb pr)) [44, 32]).toArray⟩) ∧ Below wr.heap.size W W' ∧ W'.cell? ⟨w.heap.size, q, none⟩ = some (.string ⟨(formOf nb pr q).toArray⟩) := by
          intro W hW
          have hmap : ((List.range q).map (fun j => (⟨(formOf nb pr j).toArray⟩ : ByteArray))).map (·.data.toList) = (List.range q).map (formOf nb pr) := by
            rw [List.map_map]
            exact List.map_congr_left (fun j _ => by simp)
          have h := join_any w.heap.size 0 k ((List.range q).map (fun j => (⟨(formOf nb pr j).toArray⟩ : ByteArray))) ⟨#[44, 32]⟩ W
            (fun j x hx => by
              have hj : j < q := by
                have := (List.getElem?_eq_some_iff.1 hx).1
                simpa using this
              have hx' : x = ⟨(formOf nb pr j).toArray⟩ := by
                simp [hj] at hx
                exact hx.symm
              have : W.cell? ⟨w.heap.size, j, none⟩ = wr.cell? ⟨w.heap.size, j, none⟩ := World.cell?_of_block (w := wr) (by rw [hW])
              rw [Nat.zero_add, this, hx']
              exact hf j (by omega))
            (by rw [hW]; exact hrl) (by simp; omega) (by simp; omega) (by
              rw [hmap]
              have : (⟨#[44, 32]⟩ : ByteArray).data.toList = [44, 32] := rfl
              rw [this]
              omega)
          rw [hmap] at h
          have hlen : ((List.range q).map (fun j => (⟨(formOf nb pr j).toArray⟩ : ByteArray))).length = q := by simp
          rw [hlen] at h
          refine h.mono ?_
          rintro e W' ⟨rfl, hb⟩
          rw [hW] at hb
          refine ⟨rfl, hb, ?_⟩
          rw [hb.cell (p := ⟨w.heap.size, q, none⟩) hrl]
          have : W.cell? ⟨w.heap.size, q, none⟩ = wr.cell? ⟨w.heap.size, q, none⟩ := World.cell?_of_block (w := wr) (by rw [hW])
          rw [this]
          exact hc
        have hki : (k : Int) - 1 = (q : Int) := by omega
        have hlt1 : q < k := by omega
        have hlt2 : k ≤ q + 1 := by omega
        have hne : ((k : Int) - 1 == 0) = false := beq_eq_false_iff_ne.2 (by omega)
        have HKI := hide hki
        have HJ := hide hjoin
        clear hf h1 hq hki hjoin
        generalize Lib.join ((List.range q).map (formOf nb pr)) [44, 32] = J at *
        generalize hFq : formOf nb pr q = Fq at *
        clear hFq
        go_wp2_with fail
        rw [HKI.out]
        have a1 : ∀ W : World, (Op.stringOp .add ({ data := J.toArray } : ByteArray) { data := #[32, 111, 114, 32] }).run Try.prog W = .ok (.string ({ data := J.toArray } ++ { data := #[32, 111, 114, 32] })) W := fun W => run_string_add_sum W _ _ (by
          show J.toArray.size + 4 ≤ _; rw [List.size_toArray]; omega)
        have a2 : ∀ W : World, (Op.stringOp .add (({ data := J.toArray } : ByteArray) ++ { data := #[32, 111, 114, 32] }) { data := Fq.toArray }).run Try.prog W = .ok (.string ({ data := J.toArray } ++ { data := #[32, 111, 114, 32] } ++ { data := Fq.toArray })) W := fun W => run_string_add_sum W _ _ (by
          rw [ByteArray.size_append]; show J.toArray.size + 4 + Fq.toArray.size ≤ _; rw [List.size_toArray, List.size_toArray]; omega)
        go_region_with (go_at_call 30; refine (HJ.out _ ?_).mono ?_; rfl; rintro e w' ⟨rfl, hb', hc'⟩)
        all_goals
          go_wp2_with fail
          go_ret
          refine ⟨?_, HB.out.drew.trans (hb'.mono HB.out.size)⟩
          rw [HW.out, ← last_string]
          rfl
end Go.Proofs.Qxb6602891a
