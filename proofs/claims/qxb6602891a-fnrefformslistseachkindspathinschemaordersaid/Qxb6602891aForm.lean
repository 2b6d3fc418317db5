/-
  (*kind).form (29): its contract, by induction on the fuel. By an AI agent.
-/
import Derived.Test.Qxb6602891aOutside
import Derived.Test.Qxb6602891aPlain
import Derived.Deep.QuietTactic
import Derived.BigQuiet
namespace Go.Proofs.Qxb6602891a
open Go.RowKit
set_option linter.unusedVariables false

/-- Cell j of a kind: its name s, its parent p, all else zero. -/
def kindCell (s : ByteArray) (p : Value) : Nat → Value
  | 0 => .string s
  | 1 => p
  | 2 => .pointer none
  | 3 => .slice none 0 0
  | 4 => .map none
  | _ => .map none

/-- The pointer to kind p, the kinds lying in the blocks behind K. -/
def ptrOf (K : Nat) (p : Int) : Value := if 0 ≤ p then .pointer (some ⟨K + 1 + p.toNat, 0, none⟩) else .pointer none

/-- The n kinds in their blocks. -/
def Kinds (w : World) (K n : Nat) (nb : Nat → ByteArray) (pr : Nat → Int) : Prop := ∀ i, i < n → w.rowIs (K + 1 + i) 54 6 (kindCell (nb i) (ptrOf K (pr i)))

theorem Kinds.alike {w w' : World} {K n : Nat} {nb : Nat → ByteArray} {pr : Nat → Int} (h : Kinds w K n nb pr) (e : w'.heap = w.heap) : Kinds w' K n nb pr :=
  fun i hi => (h i hi).of_block (by rw [e])

/-- The name as a list. -/
def nml (nb : Nat → ByteArray) (i : Nat) : List UInt8 := (nb i).data.toList

theorem form_string (s : ByteArray) : s ++ ({ data := #[47, 60, 110, 97, 109, 101, 62] } : ByteArray) = ⟨(s.data.toList ++ sufL).toArray⟩ := by
  apply ByteArray.ext
  simp [ByteArray.data_append, sufL]

theorem form_string_in (F : List UInt8) (s : ByteArray) : ({ data := F.toArray } : ByteArray) ++ { data := #[47] } ++ s ++ { data := #[47, 60, 110, 97, 109, 101, 62] } = ⟨(F ++ [47] ++ (s.data.toList ++ sufL)).toArray⟩ := by
  apply ByteArray.ext
  simp [ByteArray.data_append, sufL]

set_option maxHeartbeats 800000 in
set_option maxRecDepth 100000 in
theorem form_any (K n : Nat) (nb : Nat → ByteArray) (pr : Nat → Int) (hn : n ≤ 4096) (hup : ∀ j, j < n → pr j < j) (hsz : ∀ j, j < n → (nb j).size ≤ 1048576) (f : Nat) :
    ∀ (i : Nat) (w : World), i < f → i < n → Kinds w K n nb pr →
      Calls Try.prog 29 #[.pointer (some ⟨K + 1 + i, 0, none⟩)] w fun e w' => e = .returned (.string ⟨(formF (nml nb) pr f i).toArray⟩) ∧ ∃ nq, w' = w.drewN nq := by
  induction f with
  | zero => intro i w h; omega
  | succ f ih =>
    intro i w hif hin hK
    have hrow := hK i hin
    have c0 : w.cell? ⟨K + 1 + i, 0, none⟩ = some (.string (nb i)) := hrow.cell (by omega)
    have c1 : w.cell? ⟨K + 1 + i, 1, none⟩ = some (ptrOf K (pr i)) := hrow.cell (by omega)
    have hs := hsz i hin
    have IH := hide ih
    clear hrow ih
    by_cases h0 : 0 ≤ pr i
    · have hlt := hup i hin
      rw [ptrOf, if_pos h0] at c1
      have hfl := formF_length (nm := nml nb) (pr := pr) 1048576 f (pr i).toNat (by omega) (fun j hj => hup j (by omega)) (fun j hj => by
        have := hsz j (by omega)
        unfold nml
        rw [Array.length_toList]
        exact this)
      have hin' : (pr i).toNat < n := by omega
      have hfm : ((pr i).toNat + 1) * (1048576 + 8) ≤ 4096 * (1048576 + 8) := Nat.mul_le_mul_right _ (by omega)
      have hih : ∀ W : World, W.heap = w.heap → Calls Try.prog 29 #[.pointer (some ⟨K + 1 + (pr i).toNat, 0, none⟩)] W fun e w' => e = .returned (.string ⟨(formF (nml nb) pr f (pr i).toNat).toArray⟩) ∧ ∃ nq, w' = W.drewN nq := fun W hW => IH.out _ W (by omega) hin' (hK.alike hW)
      have hres := formF_in (nm := nml nb) (f := f) h0
      have hfl2 : (formF (nml nb) pr f (pr i).toNat).length ≤ 4296000000 := by omega
      clear hfl hfm hK IH
      generalize formF (nml nb) pr f (pr i).toNat = F at *
      rw [hres]
      have e0 := form_string_in F (nb i)
      have E0 := hide e0
      have HIH := hide hih
      obtain ⟨s, Hs⟩ : ∃ s, Hid (s = nb i) := ⟨_, rfl⟩
      have hnm : nml nb i = s.data.toList := by rw [Hs.out]; rfl
      rw [hnm]
      rw [← Hs.out] at c0 hs E0
      have a1 : ∀ W : World, (Op.stringOp .add ({ data := F.toArray } : ByteArray) { data := #[47] }).run Try.prog W = .ok (.string ({ data := F.toArray } ++ { data := #[47] })) W := fun W => run_string_add_sum W _ _ (by
        show F.toArray.size + 1 ≤ _; rw [List.size_toArray]; omega)
      have a2 : ∀ W : World, (Op.stringOp .add (({ data := F.toArray } : ByteArray) ++ { data := #[47] }) s).run Try.prog W = .ok (.string ({ data := F.toArray } ++ { data := #[47] } ++ s)) W := fun W => run_string_add_sum W _ _ (by
        rw [ByteArray.size_append]; show F.toArray.size + 1 + s.size ≤ _; rw [List.size_toArray]; omega)
      have a3 : ∀ W : World, (Op.stringOp .add (({ data := F.toArray } : ByteArray) ++ { data := #[47] } ++ s) { data := #[47, 60, 110, 97, 109, 101, 62] }).run Try.prog W = .ok (.string ({ data := F.toArray } ++ { data := #[47] } ++ s ++ { data := #[47, 60, 110, 97, 109, 101, 62] })) W := fun W => run_string_add_sum W _ _ (by
        rw [ByteArray.size_append, ByteArray.size_append]; show F.toArray.size + 1 + s.size + 7 ≤ _; rw [List.size_toArray]; omega)
      clear e0 hih hres hnm
      go_enter Try.func29, Try.ntmps29
      go_wp2_with fail
      go_quiet ((go_at_call 29; refine Calls.quiet_of (HIH.out _ rfl)))
      go_wp2_with fail
      go_ret
      refine ⟨?_, nq, rfl⟩
      rw [← E0.out]
      rfl
    · have hneg : pr i < 0 := by omega
      rw [ptrOf, if_neg h0] at c1
      rw [formF_top hneg]
      have e0 := form_string (nb i)
      have E0 := hide e0
      clear e0 hK IH
      obtain ⟨s, Hs⟩ : ∃ s, Hid (s = nb i) := ⟨_, rfl⟩
      have hnm : nml nb i = s.data.toList := by rw [Hs.out]; rfl
      rw [hnm]
      rw [← Hs.out] at c0 hs E0
      clear hnm
      go_enter Try.func29, Try.ntmps29
      go_wp2_with fail
      go_ret
      refine ⟨?_, 0, rfl⟩
      rw [← E0.out]
      rfl
end Go.Proofs.Qxb6602891a
