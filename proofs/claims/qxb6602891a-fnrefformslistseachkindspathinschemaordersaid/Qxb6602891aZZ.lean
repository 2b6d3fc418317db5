/-
  ZZRefForms (20): its contract. By an AI agent.
-/
import Derived.Test.Qxb6602891aRefForms
import Derived.BigRegion
namespace Go.Proofs.Qxb6602891a
open Go.RowKit
set_option linter.unusedVariables false

theorem info51 : (Try.prog.info? 51).map (fun i => (i.zero, i.size, i.bytes)) = some (some (.pointer none), 1, 8) := by kernel_rfl

theorem make_ptrs (n : Nat) (h : n ≤ 1048576) (w : World) :
    (Instr.makeSlice 50 (.int .i64 (n : Int)) (.int .i64 (n : Int))).run Try.prog w = .ok (.slice (some ⟨w.heap.size, 0, none⟩) n n) (w.alloc (.cells (zeros (.pointer none) n) 51)) :=
  run_make_row' 50 51 (.pointer none) 8 Try.underlying50 info51 rfl .i64 .i64 n (by omega) (by omega) w

/-- ks' cells behind k rounds. -/
def ptrCell (K k j : Nat) : Value := if j < k then .pointer (some ⟨K + 1 + j, 0, none⟩) else .pointer none

/-- Behind k rounds of the first loop. -/
structure KS (w0 : World) (K n : Nat) (nb : Nat → ByteArray) (k : Nat) (wr : World) : Prop where
  size : wr.heap.size = K + 1 + k
  row : wr.rowIs K 51 n (ptrCell K k)
  kinds : Kinds wr K k nb (fun _ => -1)
  below : Below K w0 wr

theorem ptrOf_neg (K : Nat) {p : Int} (h : p < 0) : ptrOf K p = .pointer none := by unfold ptrOf; rw [if_neg (by omega)]
theorem ptrOf_nat (K p : Nat) : ptrOf K (p : Int) = .pointer (some ⟨K + 1 + p, 0, none⟩) := by unfold ptrOf; rw [if_pos (by omega), Int.toNat_natCast]

theorem KS.step {w0 wr : World} {K n : Nat} {nb : Nat → ByteArray} {k : Nat} (h : KS w0 K n nb k wr) (hk : k < n) (hK : K = w0.heap.size) :
    KS w0 K n nb (k + 1) ((wr.setCell ⟨K, k, none⟩ (.pointer (some ⟨wr.heap.size, 0, none⟩))).alloc (.cells #[.string (nb k), .pointer none, .pointer none, .slice none 0 0, .map none, .map none] 54)) := by
  have hsz : (wr.setCell ⟨K, k, none⟩ (.pointer (some ⟨wr.heap.size, 0, none⟩))).heap.size = K + 1 + k := by simp [World.setCell, h.size]
  refine ⟨?_, ?_, ?_, ?_⟩
  · rw [Deep.nblk_alloc, hsz]
    omega
  · refine ((h.row.set k _).congr (fun j _ => ?_)).alloc _
    unfold ptrCell
    by_cases e : j = k
    · subst e
      rw [if_pos rfl, if_pos (by omega), h.size]
    · rw [if_neg e]
      by_cases hj : j < k
      · rw [if_pos hj, if_pos (by omega)]
      · rw [if_neg hj, if_neg (by omega)]
  · intro i hi
    by_cases e : i = k
    · subst e
      show World.rowIs _ _ _ _ (kindCell (nb i) (ptrOf K (-1)))
      rw [ptrOf_neg K (by decide)]
      have := World.rowIs_alloc (wr.setCell ⟨K, i, none⟩ (.pointer (some ⟨wr.heap.size, 0, none⟩))) #[.string (nb i), .pointer none, .pointer none, .slice none 0 0, .map none, .map none] 54 (kindCell (nb i) (.pointer none)) (fun j hj => by
        match j, hj with
        | 0, _ => rfl
        | 1, _ => rfl
        | 2, _ => rfl
        | 3, _ => rfl
        | 4, _ => rfl
        | 5, _ => rfl)
      rw [hsz] at this
      exact this
    · exact ((h.kinds i (by omega)).setOther (a := ⟨K, k, none⟩) (by show K + 1 + i ≠ K; omega) _).alloc _
  · exact (h.below.setCell (p := ⟨K, k, none⟩) (Nat.le_refl _) _).alloc (by rw [hsz]; omega) _

/-- The parents behind k rounds of the second loop. -/
def prK (pr : Nat → Int) (k i : Nat) : Int := if i < k then pr i else -1
theorem prK_lt {pr : Nat → Int} {k i : Nat} (h : i < k) : prK pr k i = pr i := by unfold prK; rw [if_pos h]
theorem prK_ge {pr : Nat → Int} {k i : Nat} (h : ¬ i < k) : prK pr k i = -1 := by unfold prK; rw [if_neg h]

/-- Behind k rounds of the second loop. -/
structure KP (w0 : World) (K n : Nat) (nb : Nat → ByteArray) (pr : Nat → Int) (k : Nat) (wr : World) : Prop where
  row : wr.rowIs K 51 n (fun i => .pointer (some ⟨K + 1 + i, 0, none⟩))
  kinds : Kinds wr K n nb (prK pr k)
  below : Below K w0 wr

theorem KP.start {w0 wr : World} {K n : Nat} {nb : Nat → ByteArray} {pr : Nat → Int} (h : KS w0 K n nb n wr) : KP w0 K n nb pr 0 wr :=
  ⟨h.row.congr (fun i hi => by unfold ptrCell; rw [if_pos hi]), fun i hi => (h.kinds i hi).congr (fun j _ => by rw [prK_ge (by omega)]), h.below⟩

theorem KP.keep {w0 wr : World} {K n : Nat} {nb : Nat → ByteArray} {pr : Nat → Int} {k : Nat} (h : KP w0 K n nb pr k wr) (hp : pr k < 0) : KP w0 K n nb pr (k + 1) wr := by
  refine ⟨h.row, fun i hi => (h.kinds i hi).congr (fun j _ => ?_), h.below⟩
  by_cases e : i = k
  · subst e
    rw [prK_ge (by omega), prK_lt (by omega), ptrOf_neg K hp, ptrOf_neg K (by decide)]
  · by_cases h1 : i < k
    · rw [prK_lt h1, prK_lt (by omega)]
    · rw [prK_ge h1, prK_ge (by omega)]

theorem KP.set {w0 wr : World} {K n : Nat} {nb : Nat → ByteArray} {pr : Nat → Int} {k p : Nat} (h : KP w0 K n nb pr k wr) (hk : k < n) (hp : pr k = (p : Int)) :
    KP w0 K n nb pr (k + 1) (wr.setCell ⟨K + 1 + k, 1, none⟩ (.pointer (some ⟨K + 1 + p, 0, none⟩))) := by
  refine ⟨h.row.setOther (by show K ≠ K + 1 + k; omega) _, fun i hi => ?_, h.below.setCell (p := ⟨K + 1 + k, 1, none⟩) (by show K ≤ K + 1 + k; omega) _⟩
  by_cases e : i = k
  · subst e
    refine ((h.kinds i hi).set 1 _).congr (fun j hj => ?_)
    rw [prK_lt (show i < i + 1 by omega), hp, ptrOf_nat]
    match j, hj with
    | 0, _ => rfl
    | 1, _ => rfl
    | 2, _ => rfl
    | 3, _ => rfl
    | 4, _ => rfl
    | 5, _ => rfl
  · refine ((h.kinds i hi).setOther (a := ⟨K + 1 + k, 1, none⟩) (by show K + 1 + i ≠ K + 1 + k; omega) _).congr (fun j _ => ?_)
    by_cases h1 : i < k
    · rw [prK_lt h1, prK_lt (by omega)]
    · rw [prK_ge h1, prK_ge (by omega)]

theorem KP.drew {w0 wr : World} {K n : Nat} {nb : Nat → ByteArray} {pr : Nat → Int} {k : Nat} (h : KP w0 K n nb pr k wr) : KP w0 K n nb pr k wr.drew :=
  ⟨h.row.drew, fun i hi => (h.kinds i hi).drew, h.below.drew⟩

set_option maxHeartbeats 1600000 in
set_option maxRecDepth 100000 in
theorem zz_any (a0 b0 : Option Addr) (n cn m cm : Nat) (ss : List ByteArray) (ps : List Int) (w : World) (hG : Good ss n ps m) (hS : StrsAt w a0 n ss) (hP : IntsAt w b0 m ps) :
    Calls Try.prog 20 #[.slice a0 n cn, .slice b0 m cm] w fun e w' => e = .returned (.string ⟨(wantL (formOf (fun i => ss.getD i ByteArray.empty) (par ps m)) n n).toArray⟩) ∧ Below w.heap.size w w' := by
  have hn := hG.most
  have hm := hG.mostP
  have hpos := hG.pos
  have hmk := make_ptrs n (by omega)
  have h0 := rowIs_zeros w (.pointer none) n 51
  have hbel : Below w.heap.size w (w.alloc (.cells (zeros (.pointer none) n) 51)) := (Below.refl _ _).alloc (Nat.le_refl _) _
  have hks : KS w w.heap.size n (fun i => ss.getD i ByteArray.empty) 0 (w.alloc (.cells (zeros (.pointer none) n) 51)) :=
    ⟨by rw [Deep.nblk_alloc], h0.congr (fun i _ => by simp [ptrCell]), fun i hi => by omega, hbel⟩
  have HKS := hide hks
  clear hks h0 hbel
  go_enter Try.func20, Try.ntmps20
  go_wp2_with fail
  clear hmk
  go_loopw [6] (fun i wr => ∃ k : Nat, k ≤ n ∧ i = .int .i64 k ∧ Hid (KS w w.heap.size n (fun i => ss.getD i ByteArray.empty) k wr)) (fun i _ => n - (intOf i).toNat)
  case atStart => exact ⟨0, Nat.zero_le _, rfl, HKS⟩
  case round =>
    clear HKS
    obtain ⟨k, hk, rfl, HK⟩ := hrel
    by_cases hlt : k < n
    · obtain ⟨b, off, rfl, hbl, hc, hs⟩ := hS.2 k hlt
      have hc' : wr.cell? ⟨b, off + k, none⟩ = some (.string (ss.getD k ByteArray.empty)) := by rw [HK.out.below.cell (p := ⟨b, off + k, none⟩) hbl]; exact hc
      have hcell : wr.cell? ⟨w.heap.size, k, none⟩ = some (.pointer none) := by
        have := HK.out.row.cell hlt
        unfold ptrCell at this
        rw [if_neg (by omega)] at this
        exact this
      have hfz := HK.out.row.frozen k
      have HN := hide (HK.out.step hlt rfl)
      have hkb := HK.out.row.lt
      clear hc hs
      obtain ⟨s, Hs⟩ : ∃ s, Hid (s = ss.getD k ByteArray.empty) := ⟨_, rfl⟩
      have HN' : Hid (KS w w.heap.size n (fun i => ss.getD i ByteArray.empty) (k + 1) ((wr.setCell ⟨w.heap.size, k, none⟩ (.pointer (some ⟨wr.heap.size, 0, none⟩))).alloc (.cells #[.string s, .pointer none, .pointer none, .slice none 0 0, .map none, .map none] 54))) := by rw [Hs.out]; exact HN
      rw [← Hs.out] at hc'
      clear HN
      go_wp2_with fail
      go_roundw
      case rel => exact ⟨k + 1, by omega, by go_num, HN'⟩
      case measure => simp [intOf]; omega
    · have hkn : k = n := by omega
      subst hkn
      have HP := hide (KP.start (pr := par ps m) HK.out)
      clear HK hlt
      go_wp2_with fail
      go_loopw [7] (fun i wr => ∃ q : Nat, q ≤ k ∧ i = .int .i64 q ∧ Hid (KP w w.heap.size k (fun i => ss.getD i ByteArray.empty) (par ps m) q wr)) (fun i _ => k - (intOf i).toNat)
      case atStart => exact ⟨0, Nat.zero_le _, rfl, HP⟩
      case round =>
        clear HP
        obtain ⟨q, hq, rfl, HP⟩ := hrel
        by_cases hlt : q < k
        · have hup := hG.up q hlt
          by_cases hqm : q < m
          · obtain ⟨b, off, rfl, hbl, hc, hlo, hhi⟩ := hP.2 q hqm
            have hc' : wr.cell? ⟨b, off + q, none⟩ = some (.int .i64 (ps.getD q 0)) := by rw [HP.out.below.cell (p := ⟨b, off + q, none⟩) hbl]; exact hc
            by_cases hp0 : 0 ≤ ps.getD q 0
            · have hpar : par ps m q = ps.getD q 0 := by unfold par; rw [if_pos ⟨hqm, hp0⟩]
              obtain ⟨p, hp⟩ := Int.eq_ofNat_of_zero_le hp0
              rw [hpar, hp] at hup
              rw [hp] at hc' hpar
              have hpq : p < q := by omega
              have c1 := HP.out.row.cell hlt
              have c2 : wr.cell? ⟨w.heap.size, p, none⟩ = some (.pointer (some ⟨w.heap.size + 1 + p, 0, none⟩)) := HP.out.row.cell (by omega)
              have c3 : wr.cell? ⟨w.heap.size + 1 + q, 1, none⟩ = some (ptrOf w.heap.size (prK (par ps m) q q)) := (HP.out.kinds q hlt).cell (by omega)
              rw [prK_ge (by omega), ptrOf_neg _ (by decide)] at c3
              have hfz := (HP.out.kinds q hlt).frozen 1
              have HN := hide (HP.out.set hlt hpar)
              clear hc hlo hhi hp hpar hp0
              go_wp2_with fail
              go_region
              go_wp2_with fail
              go_roundw
              case rel =>
                exact ⟨q + 1, by omega, by go_num, HN.out.drew⟩
              case measure => simp [intOf]; omega
            · have hpar : par ps m q < 0 := by unfold par; rw [if_neg (fun h => hp0 h.2)]; omega
              have HN := hide (HP.out.keep hpar)
              obtain ⟨p, Hp⟩ : ∃ p, Hid (p = ps.getD q 0) := ⟨_, rfl⟩
              rw [← Hp.out] at hc' hp0
              clear hc hlo hhi hpar
              go_wp2_with fail
              go_roundw
              case rel => exact ⟨q + 1, by omega, by go_num, HN⟩
              case measure => simp [intOf]; omega
          · have hpar : par ps m q < 0 := by unfold par; rw [if_neg (fun h => hqm h.1)]; omega
            have HN := hide (HP.out.keep hpar)
            clear hpar
            go_wp2_with fail
            go_roundw
            case rel => exact ⟨q + 1, by omega, by go_num, HN⟩
            case measure => simp [intOf]; omega
        · have hqk : q = k := by omega
          subst hqk
          have hbw := HP.out.below
          have hsz := hbw.size
          have HCALL := hide (refForms_any wr.heap.size w.heap.size q (fun i => ss.getD i ByteArray.empty) (par ps m) hn hpos hG.up hG.size (wr.alloc (.cells #[.slice (some ⟨w.heap.size, 0, none⟩) q q, .map none, .slice none 0 0, .bool false] 58))
            (by rw [Lib.cell_of_heap (Deep.blk_alloc_new _ _)]; rfl) (by rw [Deep.nblk_alloc]; omega) (HP.out.row.alloc _) (fun i hi => ((HP.out.kinds i hi).congr (fun j _ => by rw [prK_lt hi])).alloc _))
          clear hbw
          go_wp2_with fail
          refine HCALL.out.mono ?_
          rintro e w2 ⟨rfl, hb2⟩
          go_wp2_with fail
          go_ret
          exact ⟨rfl, (HP.out.below.alloc hsz _).trans (hb2.mono (by rw [Deep.nblk_alloc]; omega))⟩
end Go.Proofs.Qxb6602891a
