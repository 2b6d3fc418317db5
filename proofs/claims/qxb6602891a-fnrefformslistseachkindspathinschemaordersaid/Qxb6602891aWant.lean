/-
  rfWant (21): its contract. By an AI agent.
-/
import Derived.Test.Qxb6602891aRefForms
import Derived.Lib.AppendStr
import Derived.Laws.IdiomStrings
namespace Go.Proofs.Qxb6602891a
open Go.RowKit
set_option linter.unusedVariables false

theorem info5 : (Try.prog.info? 5).map (fun i => (i.zero, i.size, i.bytes)) = some (some (.int .u8 0), 1, 1) := by kernel_rfl

/-- Two owned rows of different element types lie apart. -/
theorem own_ne {w : World} {B : Nat} {e1 e2 : TypeId} {v1 v2 : Value} {n1 n2 : Nat} {xs1 xs2 : List Value} (h1 : w.ownsRow B e1 1 v1 n1 xs1) (h2 : w.ownsRow B e2 1 v2 n2 xs2) (hne : e1 ≠ e2) : v1.ownBlock = none ∨ v1.ownBlock ≠ v2.ownBlock := by
  rcases h1.2 with ⟨rfl, _⟩ | ⟨g, cap, cur, rfl, _, hg, _⟩
  · exact .inl rfl
  · right
    rcases h2.2 with ⟨rfl, _⟩ | ⟨g', cap', cur', rfl, _, hg', _⟩
    · simp [Value.ownBlock]
    · intro e
      simp only [Value.ownBlock, Option.some.injEq] at e
      subst e
      rw [hg] at hg'
      simp only [Option.some.injEq, Obj.cells.injEq] at hg'
      exact hne hg'.2.1

theorem one_cell (w : World) (v : Value) (T : TypeId) : ∀ j u, [v][j]? = some u → (w.alloc (.cells #[v] T)).cell? ((⟨w.heap.size, 0, none⟩ : Addr).add j) = some u := by
  intro j u hj
  match j, hj with
  | 0, hj => simp at hj; subst hj; simp [Addr.add]

theorem one_oneCell (k : IntKind) (c : Int) : ∀ u ∈ [Value.int k c], u.oneCell' = true := by
  intro u hu; simp at hu; subst hu; rfl

/-- An owned row of bytes, as the conversion to a string reads it. -/
theorem row_string {w : World} {B : Nat} {v : Value} {l : List UInt8} {n : Nat} (h : w.ownsRow B 5 1 v n (Lib.byteCells l)) (hl : l ≠ []) : (convert 60 9 v).run Try.prog w = .ok (.string ⟨l.toArray⟩) w := by
  have hn : n = l.length := by have := h.1; rw [Lib.byteCells_length] at this; omega
  subst hn
  rcases h.2 with ⟨_, h0⟩ | ⟨g, cap, cur, rfl, _, hg, _, _, _, htk⟩
  · exact absurd (List.eq_nil_of_length_eq_zero h0) hl
  · refine run_convert_bytes_back w 60 9 5 ⟨g, 0, none⟩ cap l Try.underlying60 Try.underlying5 Try.underlying9 fun j hj => ?_
    have := h.cellAt j (by omega)
    rw [show (⟨g, 0, none⟩ : Addr).add j = ⟨g, j, none⟩ by simp [Addr.add]; omega, this]
    simp [Lib.byteCells, hj]

/-- What an append of a string, or of a byte, leaves. -/
theorem own_str {w : World} {B : Nat} {v : Value} {l l' : List UInt8} {s : ByteArray} {n : Nat} (h : w.ownsRow B 5 1 v (n + s.size) (Lib.byteCells l ++ Lib.strCells s)) (e : l' = l ++ s.data.toList) : w.ownsRow B 5 1 v l'.length (Lib.byteCells l') := by
  have hx := h.1
  have he : Lib.byteCells l ++ Lib.strCells s = Lib.byteCells l' := by
    rw [e, Lib.byteCells_append, Lib.strCells_eq]
  rw [he] at h hx
  rw [Lib.byteCells_length, Nat.mul_one] at hx
  rw [hx]
  exact h

theorem own_byte {w : World} {B : Nat} {v : Value} {l l' : List UInt8} {c : UInt8} {n : Nat} (h : w.ownsRow B 5 1 v (n + 1) (Lib.byteCells l ++ [.int .u8 c.toNat])) (e : l' = l ++ [c]) : w.ownsRow B 5 1 v l'.length (Lib.byteCells l') := by
  have hx := h.1
  have he : Lib.byteCells l ++ [.int .u8 c.toNat] = Lib.byteCells l' := by
    rw [e, Lib.byteCells_append]; rfl
  rw [he] at h hx
  rw [Lib.byteCells_length, Nat.mul_one] at hx
  rw [hx]
  exact h

/-- The chain's cells. -/
def natCells (l : List Nat) : List Value := l.map fun x : Nat => Value.int .i64 (x : Int)

theorem own_nat {w : World} {B : Nat} {v : Value} {l l' : List Nat} {c n : Nat} (h : w.ownsRow B 3 1 v (n + 1) (natCells l ++ [.int .i64 (c : Int)])) (e : l' = l ++ [c]) : w.ownsRow B 3 1 v l'.length (natCells l') := by
  have hx := h.1
  have he : natCells l ++ [.int .i64 (c : Int)] = natCells l' := by
    rw [e]; simp [natCells]
  rw [he] at h hx
  simp only [natCells, List.length_map, Nat.mul_one] at hx
  rw [hx]
  exact h

theorem own_slice {w : World} {B : Nat} {v : Value} {l : List Nat} (h : w.ownsRow B 3 1 v l.length (natCells l)) (hl : l ≠ []) : ∃ g cap, v = .slice (some ⟨g, 0, none⟩) l.length cap := by
  rcases h.2 with ⟨_, h0⟩ | ⟨g, cap, cur, rfl, _⟩
  · exact absurd (List.eq_nil_of_length_eq_zero h0) hl
  · exact ⟨g, cap, rfl⟩

theorem wrtS_length {nm : Nat → List UInt8} {C : Nat} : ∀ (l : List Nat), (∀ x ∈ l, (nm x).length ≤ C) → (wrtS nm l).length ≤ l.length * (C + 8)
  | [], _ => by simp [wrtS]
  | y :: r, h => by
    have ih := wrtS_length r (fun x hx => h x (List.mem_cons_of_mem _ hx))
    have hy := h y (by simp)
    have hs : sufL.length = 7 := rfl
    rw [wrtS]
    simp only [List.length_append, List.length_cons, List.length_nil, hs]
    rw [Nat.add_mul]
    omega

theorem wrtS_small {nm : Nat → List UInt8} {l : List Nat} (hl : l.length ≤ 4097) (h : ∀ x ∈ l, (nm x).length ≤ 1048576) : (wrtS nm l).length ≤ 4300000000 := by
  obtain ⟨C, hC⟩ : ∃ C, C = 1048576 := ⟨_, rfl⟩
  rw [← hC] at h
  have h1 := wrtS_length l h
  have h2 : l.length * (C + 8) ≤ 4097 * (C + 8) := Nat.mul_le_mul_right _ hl
  generalize l.length * (C + 8) = X at *
  omega

theorem formOf_pos (nb : Nat → ByteArray) (pr : Nat → Int) (j : Nat) : 7 ≤ (formOf nb pr j).length := by
  unfold formOf
  rw [formF]
  have hs : sufL.length = 7 := rfl
  simp only [List.length_append, hs]
  omega

theorem sepL_len (n k : Nat) : (sepL n k).length ≤ 4 := by
  unfold sepL
  split
  · simp
  · split <;> simp

/-- What rfWant's last loop has written when c stands at z. -/
def outZ (X : List UInt8) (nm : Nat → List UInt8) (acc : List Nat) (z : Int) : List UInt8 := X ++ (if 0 ≤ z then wrtS nm (acc.drop (z + 1).toNat) else wrt nm acc)

theorem outZ_top (X : List UInt8) (nm : Nat → List UInt8) (acc : List Nat) (h : 0 < acc.length) : outZ X nm acc ((acc.length : Int) - 1) = X := by
  unfold outZ
  rw [if_pos (by omega), show ((acc.length : Int) - 1 + 1).toNat = acc.length by omega, List.drop_length, wrtS, List.append_nil]

theorem outZ_len {X : List UInt8} {nm : Nat → List UInt8} {acc : List Nat} {z : Int} (hX : X.length ≤ 70368744177668) (hal : acc.length ≤ 4097) (hz : 0 ≤ z) (h : ∀ x ∈ acc, (nm x).length ≤ 1048576) : (outZ X nm acc z).length ≤ 70373044177668 := by
  unfold outZ
  rw [if_pos hz, List.length_append]
  have := wrtS_small (nm := nm) (l := acc.drop (z + 1).toNat) (by rw [List.length_drop]; omega) (fun x hx => h x (List.mem_of_mem_drop hx))
  omega

theorem outZ_step (X : List UInt8) (nm : Nat → List UInt8) (acc : List Nat) (z x : Nat) (h : acc[z]? = some x) :
    (0 < z → outZ X nm acc ((z : Int) - 1) = ((outZ X nm acc z ++ nm x) ++ sufL) ++ [47]) ∧ (z = 0 → outZ X nm acc (-1) = (outZ X nm acc z ++ nm x) ++ sufL) := by
  obtain ⟨hl, hx⟩ := List.getElem?_eq_some_iff.1 h
  have hd : acc.drop z = x :: acc.drop (z + 1) := by rw [List.drop_eq_getElem_cons hl, hx]
  constructor
  · intro h0
    unfold outZ
    rw [if_pos (by omega), if_pos (by omega), show ((z : Int) - 1 + 1).toNat = z by omega, show ((z : Int) + 1).toNat = z + 1 by omega, hd, wrtS]
    simp only [List.append_assoc]
  · intro h0
    subst h0
    unfold outZ
    rw [List.drop_zero] at hd
    rw [if_neg (by omega), if_pos (by omega), show (((0 : Nat) : Int) + 1).toNat = 0 + 1 by rfl]
    have hw : wrt nm acc = wrtS nm (acc.drop (0 + 1)) ++ (nm x ++ sufL) := (congrArg (wrt nm) hd).trans (by rw [wrt])
    rw [hw]
    simp only [List.append_assoc]

set_option maxHeartbeats 4000000 in
set_option maxRecDepth 100000 in
theorem want_any (a0 b0 : Option Addr) (n cn m cm : Nat) (ss : List ByteArray) (ps : List Int) (w : World) (hG : Good ss n ps m) (hS : StrsAt w a0 n ss) (hP : IntsAt w b0 m ps) :
    Calls Try.prog 21 #[.slice a0 n cn, .slice b0 m cm] w fun e w' => e = .returned (.string ⟨(wantL (formOf (fun i => ss.getD i ByteArray.empty) (par ps m)) n n).toArray⟩) ∧ Below w.heap.size w w' := by
  have hn := hG.most
  have hm := hG.mostP
  have hpos := hG.pos
  obtain ⟨F, HF⟩ : ∃ F, Hid (F = formOf (fun i => ss.getD i ByteArray.empty) (par ps m)) := ⟨_, rfl⟩
  have hFl : ∀ j, j < n → (F j).length ≤ 4296000000 := fun j hj => by rw [HF.out]; exact formOf_len hn hG.up hG.size hj
  have HFL := hide hFl
  have HNE : Hid (∀ j, j < n → 7 ≤ (F j).length) := fun j hj => by rw [HF.out]; exact formOf_pos _ _ _
  rw [← HF.out]
  clear hFl
  obtain ⟨i0, hi, hz0, hz1, hz2⟩ := info_parts info5
  obtain ⟨i3, hi3, hy0, hy1, hy2⟩ := info_parts info3
  go_enter Try.func21, Try.ntmps21
  go_wp2_with fail
  go_loopw [5, 6] (fun ov i wr => ∃ k : Nat, k ≤ n ∧ i = .int .i64 k ∧ Hid (wr.ownsRow w.heap.size 5 1 ov (wantL F n k).length (Lib.byteCells (wantL F n k))) ∧ Hid (Below w.heap.size w wr)) (fun _ i _ => n - (intOf i).toNat)
  case atStart => exact ⟨0, Nat.zero_le _, rfl, World.ownsRow_nil _ _ _ _, Below.refl _ _⟩
  case round =>
    obtain ⟨k, hk, rfl, HO, HB⟩ := hrel
    by_cases hlt : k < n
    · have hX : (wantL F n k).length ≤ 70368744177664 := want_small (by omega) (fun j hj => HFL.out j (by omega))
      have hBw := HB.out.size
      have hcase : k = 0 ∨ (k ≠ 0 ∧ k + 1 = n) ∨ (k ≠ 0 ∧ k + 1 ≠ n) := by omega
      rcases hcase with hc | ⟨hc0, hc⟩ | ⟨hc0, hc⟩
      · have hsep : wantL F n k ++ sepL n k = wantL F n k := by unfold sepL; rw [if_pos hc, List.append_nil]
        have HX : Hid (wr.ownsRow w.heap.size 5 1 u5 (wantL F n k ++ sepL n k).length (Lib.byteCells (wantL F n k ++ sepL n k))) := by rw [hsep]; exact HO
        have HW := HB
        have hk0 : decide (0 < k) = false := by simp [hc]
        clear hsep HO hc HB
        go_wp2_with fail
        clear hk0
        obtain ⟨X, HXE⟩ : ∃ X, Hid (X = wantL F n k ++ sepL n k) := ⟨_, rfl⟩
        rw [← HXE.out] at HX
        have hXl : X.length ≤ 70368744177668 := by
          rw [HXE.out, List.length_append]
          have := sepL_len n k
          omega
        go_loopw [7, 8] (fun cv jv wr2 => ∃ (acc : List Nat) (j : Int) (f : Nat), jv = .int .i64 j ∧ -1 ≤ j ∧ j ≤ k ∧ Hid (0 ≤ j → j.toNat < f) ∧ Hid (acc ++ (if 0 ≤ j then chainF (par ps m) f j.toNat else []) = chainF (par ps m) 4097 k) ∧ Hid (wr2.ownsRow w.heap.size 3 1 cv acc.length (natCells acc)) ∧ Hid (wr2.ownsRow w.heap.size 5 1 u5 X.length (Lib.byteCells X)) ∧ Hid (Below w.heap.size w wr2)) (fun _ jv _ => (intOf jv + 1).toNat)
        case atStart => exact ⟨[], k, 4097, rfl, by omega, by omega, fun _ => by omega, by rw [if_pos (by omega), Int.toNat_natCast, List.nil_append]; rfl, World.ownsRow_nil _ _ _ _, HX, HW⟩
        case round =>
          clear HX HW
          obtain ⟨acc, j, f, rfl, hj1, hjk, HJF, HE, HC, HX, HW⟩ := hrel
          have hB2 := HW.out.size
          have hal : acc.length ≤ 4097 := by
            have h1 := congrArg List.length HE.out
            have h2 := chainF_length (pr := par ps m) 4097 k
            rw [List.length_append] at h1
            omega
          by_cases hj : 0 ≤ j
          · obtain ⟨jn, rfl⟩ := Int.eq_ofNat_of_zero_le hj
            have hjf := HJF.out hj
            rw [Int.toNat_natCast] at hjf
            obtain ⟨f', rfl⟩ : ∃ f', f = f' + 1 := ⟨f - 1, by omega⟩
            have hE := HE.out
            rw [if_pos hj, Int.toNat_natCast, chainF_ne] at hE
            have HE' : Hid ((acc ++ [jn]) ++ (if 0 ≤ par ps m jn then chainF (par ps m) f' (par ps m jn).toNat else []) = chainF (par ps m) 4097 k) := by
              show (acc ++ [jn]) ++ _ = _
              rw [← hE, List.append_assoc]; rfl
            have hownC := HC.out
            clear hE HE HJF
            go_wp2_with (at_builtin; refine wpList_append_own _ rfl (.tmp 33) (.tmp 35) 38 rfl w.heap.size 3 i3 (.int .i64 0) 1 8 Try.underlying38 hi3 hy0 hy1 hy2 rfl (by decide) _ _ _ rfl (hownC.alloc _) ⟨wr.heap.size, 0, none⟩ 1 1 [.int .i64 (jn : Int)] rfl rfl (one_cell _ _ _) (one_oneCell _ _) (by unfold maxLen; omega) (by omega) (by simp; omega) ?_)
            intro v3 w3 hown3 hg3 _
            have HC3 := hide (own_nat hown3 rfl)
            have HX3 := hide ((HX.out.alloc _).kept hg3 (own_ne HX.out hownC (by decide)))
            have HW3 := hide ((HW.out.alloc hB2 _).grown hg3 (by simp; omega) (fun k hk => (hownC.lt k hk).1))
            clear hown3 hg3 hownC HC HX HW
            go_wp2_with fail
            refine (parent_any b0 m cm ps jn _ (by unfold maxLen; omega) (by omega) (hP.below HW3.out (Nat.le_refl _))).mono ?_
            rintro e w4 ⟨rfl, rfl⟩
            have hup := hG.up jn (by omega)
            have hge := par_ge ps m jn
            obtain ⟨p, Hp⟩ : ∃ p, Hid (p = par ps m jn) := ⟨_, rfl⟩
            rw [← Hp.out] at hup hge HE' ⊢
            go_wp2_with fail
            go_roundw
            case rel => exact ⟨acc ++ [jn], p, f', rfl, hge, by omega, fun h => by omega, HE', HC3, HX3, HW3⟩
            case measure => simp [intOf]; omega
          · have hE := HE.out
            rw [if_neg hj, List.append_nil] at hE
            have HCH := hide hE
            have hne : acc ≠ [] := by rw [hE, chainF_ne]; simp
            have hpl : 0 < acc.length := by
              rcases Nat.eq_zero_or_pos acc.length with h | h
              · exact absurd (List.eq_nil_of_length_eq_zero h) hne
              · exact h
            obtain ⟨g, cap, rfl⟩ := own_slice HC.out hne
            clear hE HE HJF hne
            obtain rfl : j = -1 := by omega
            clear hj hj1 hjk
            go_wp2_with fail
            go_loopw [5, 9] (fun ov cv wr3 => ∃ z : Int, cv = .int .i64 z ∧ -1 ≤ z ∧ z < acc.length ∧ Hid (wr3.ownsRow w.heap.size 5 1 ov (outZ X (nml fun i => ss.getD i ByteArray.empty) acc z).length (Lib.byteCells (outZ X (nml fun i => ss.getD i ByteArray.empty) acc z))) ∧ Hid (wr3.ownsRow w.heap.size 3 1 (.slice (some ⟨g, 0, none⟩) acc.length cap) acc.length (natCells acc)) ∧ Hid (Below w.heap.size w wr3)) (fun _ cv _ => (intOf cv + 1).toNat)
            case atStart => exact ⟨(acc.length : Int) - 1, rfl, by omega, by omega, by rw [outZ_top _ _ _ hpl]; exact HX, HC, HW⟩
            case round =>
              clear HX HC HW
              obtain ⟨z, rfl, hzl1, hzl2, HX, HC, HW⟩ := hrel
              have hB3 := HW.out.size
              by_cases hz : 0 ≤ z
              · obtain ⟨zn, rfl⟩ := Int.eq_ofNat_of_zero_le hz
                have hzl : zn < acc.length := by omega
                obtain ⟨x, HXx⟩ : ∃ x, Hid (acc[zn]? = some x) := ⟨acc[zn], List.getElem?_eq_getElem hzl⟩
                have hxm : x ∈ acc := List.mem_of_getElem? HXx.out
                have hxk : x ≤ k := chainF_le 4097 k (fun y hy => hG.up y (by omega)) x (by rw [← HCH.out]; exact hxm)
                obtain ⟨b, off, rfl, hbl, hc, hs⟩ := hS.2 x (by omega)
                have hsz := hG.size x (by omega)
                have hc' : wr.cell? ⟨b, off + x, none⟩ = some (.string (ss.getD x ByteArray.empty)) := by rw [HW.out.cell (p := ⟨b, off + x, none⟩) hbl]; exact hc
                have hcz : wr.cell? ⟨g, zn, none⟩ = some (.int .i64 (x : Int)) := by
                  rw [HC.out.cellAt zn (by omega)]
                  unfold natCells
                  rw [List.getElem?_map, HXx.out]
                  rfl
                have hol : (outZ X (nml fun i => ss.getD i ByteArray.empty) acc zn).length ≤ 70373044177668 := outZ_len hXl hal hz (fun y hy => by
                  have := hG.size y (by
                    have := chainF_le 4097 k (fun y hy => hG.up y (by omega)) y (by rw [← HCH.out]; exact hy)
                    omega)
                  unfold nml
                  rw [Array.length_toList]
                  exact this)
                have hst := outZ_step X (nml fun i => ss.getD i ByteArray.empty) acc zn x HXx.out
                rw [show nml (fun i => ss.getD i ByteArray.empty) x = (ss.getD x ByteArray.empty).data.toList from rfl] at hst
                have HST := hide hst
                obtain ⟨s, Hs⟩ : ∃ s, Hid (s = ss.getD x ByteArray.empty) := ⟨_, rfl⟩
                rw [← Hs.out] at hc' hsz HST
                have hown := HX.out
                clear hc hs hst hxm
                generalize outZ X (nml fun i => ss.getD i ByteArray.empty) acc zn = Y at *
                go_wp2_with (at_builtin; refine Lib.wpList_append_own_string _ rfl (.tmp 44) (.tmp 51) 60 9 rfl w.heap.size 5 i0 Try.underlying60 Try.underlying9 hi hz0 hz1 hz2 _ _ _ rfl hown s rfl (by unfold maxLen; omega) (by omega) (by omega) ?_)
                intro v3 w3 hown3 hg3 _
                have HX3 := hide (own_str hown3 rfl)
                have HC3 := hide (HC.out.kept hg3 (own_ne HC.out hown (by decide)))
                have HW3 := hide (HW.out.grown hg3 hB3 (fun k hk => (hown.lt k hk).1))
                clear hown3 hg3 hown HX HC HW hc' hcz
                have hB4 := HW3.out.size
                have hown := HX3.out
                have hl3 : (Y ++ s.data.toList).length ≤ 70373045226244 := by
                  have h2 : s.data.toList.length = s.size := Array.length_toList
                  rw [List.length_append, h2]
                  omega
                generalize Y ++ s.data.toList = Y3 at *
                go_wp2_with (at_builtin; refine Lib.wpList_append_own_string _ rfl (.tmp 53) _ 60 9 rfl w.heap.size 5 i0 Try.underlying60 Try.underlying9 hi hz0 hz1 hz2 _ _ _ rfl hown ⟨#[47, 60, 110, 97, 109, 101, 62]⟩ rfl (by show _ + 7 ≤ _; unfold maxLen; omega) (by show _ + 7 ≤ _; omega) (by omega) ?_)
                intro v4 w4 hown4 hg4 _
                have HX4 := hide (own_str (l' := Y3 ++ sufL) hown4 rfl)
                have HC4 := hide (HC3.out.kept hg4 (own_ne HC3.out hown (by decide)))
                have HW4 := hide (HW3.out.grown hg4 hB4 (fun k hk => (hown.lt k hk).1))
                clear hown4 hg4 hown HX3 HC3 HW3
                have hB5 := HW4.out.size
                by_cases hz0' : 0 < zn
                · have hst1 := HST.out.1 hz0'
                  have hown := HX4.out
                  have hl4 : (Y3 ++ sufL).length ≤ 70373045226251 := by
                    rw [List.length_append]
                    have : sufL.length = 7 := rfl
                    omega
                  have HST1 := hide hst1
                  clear hst1 HST
                  generalize Y3 ++ sufL = Y4 at *
                  go_wp2_with (at_builtin; refine wpList_append_own _ rfl (.tmp 57) (.tmp 58) 60 rfl w.heap.size 5 i0 (.int .u8 0) 1 1 Try.underlying60 hi hz0 hz1 hz2 rfl (by decide) _ _ _ rfl (hown.alloc _) ⟨w4.heap.size, 0, none⟩ 1 1 [.int .u8 47] rfl rfl (one_cell _ _ _) (one_oneCell _ _) (by unfold maxLen; omega) (by omega) (by simp; omega) ?_)
                  intro v5 w5 hown5 hg5 _
                  have HX5 := hide (own_byte (c := 47) hown5 HST1.out)
                  have HC5 := hide ((HC4.out.alloc _).kept hg5 (own_ne HC4.out hown (by decide)))
                  have HW5 := hide ((HW4.out.alloc hB5 _).grown hg5 (by simp; omega) (fun k hk => (hown.lt k hk).1))
                  clear hown5 hg5 hown HX4 HC4 HW4
                  go_wp2_with fail
                  go_roundw
                  case rel => exact ⟨(zn : Int) - 1, rfl, by omega, by omega, HX5, HC5, HW5⟩
                  case measure => first | (simp [intOf]; omega) | simp [intOf]
                · have hzz : zn = 0 := by omega
                  have hst1 := HST.out.2 hzz
                  rw [← hst1] at HX4
                  clear hst1 HST
                  have hzi : ((zn : Int) - 1) = -1 := by omega
                  have HZI := hide hzi
                  clear hzz hzi
                  go_wp2_with fail
                  go_roundw
                  case rel => exact ⟨-1, by rw [HZI.out], by omega, by omega, HX4, HC4, HW4⟩
                  case measure => first | (simp [intOf]; omega) | simp [intOf]
              · obtain rfl : z = -1 := by omega
                have hfin : outZ X (nml fun i => ss.getD i ByteArray.empty) acc (-1) = wantL F n (k + 1) := by
                  unfold outZ
                  rw [if_neg (by omega), HCH.out, (wrt_form (nm := nml fun i => ss.getD i ByteArray.empty) 4097 k (by omega) (fun y hy => hG.up y (by omega))).1, HXE.out, wantL, HF.out]
                  rfl
                rw [hfin] at HX
                clear hfin hz hzl1 hzl2
                go_wp2_with fail
                go_roundw
                case rel => exact ⟨k + 1, by omega, by go_num, HX, HW⟩
                case measure => simp [intOf]; omega
      · have hsep : wantL F n k ++ sepL n k = wantL F n k ++ [32, 111, 114, 32] := by unfold sepL; rw [if_neg hc0, if_pos hc]
        have HSEP := hide hsep
        have hd : ((k : Int) == (n : Int) - 1) = true := beq_iff_eq.2 (by omega)
        have hown := HO.out
        have hk0 : decide (0 < k) = true := by simp; omega
        clear hsep hc hc0
        go_wp2_with (at_builtin; refine Lib.wpList_append_own_string _ rfl (.tmp 23) _ 60 9 rfl w.heap.size 5 i0 Try.underlying60 Try.underlying9 hi hz0 hz1 hz2 _ _ _ rfl hown ⟨#[32, 111, 114, 32]⟩ rfl ?ca ?cb ?cc ?_)
        case ca => show _ + 4 ≤ _; unfold maxLen; omega
        case cb => show _ + 4 ≤ _; omega
        case cc => omega
        intro v1 w1 hown1 hg1 _
        have HX := hide (own_str hown1 HSEP.out)
        have HW := hide (HB.out.grown hg1 hBw (fun k hk => (hown.lt k hk).1))
        clear hown1 hg1 hown hBw HB HO HSEP
        go_wp2_with fail
        clear hd hk0
        obtain ⟨X, HXE⟩ : ∃ X, Hid (X = wantL F n k ++ sepL n k) := ⟨_, rfl⟩
        rw [← HXE.out] at HX
        have hXl : X.length ≤ 70368744177668 := by
          rw [HXE.out, List.length_append]
          have := sepL_len n k
          omega
        go_loopw [7, 8] (fun cv jv wr2 => ∃ (acc : List Nat) (j : Int) (f : Nat), jv = .int .i64 j ∧ -1 ≤ j ∧ j ≤ k ∧ Hid (0 ≤ j → j.toNat < f) ∧ Hid (acc ++ (if 0 ≤ j then chainF (par ps m) f j.toNat else []) = chainF (par ps m) 4097 k) ∧ Hid (wr2.ownsRow w.heap.size 3 1 cv acc.length (natCells acc)) ∧ Hid (wr2.ownsRow w.heap.size 5 1 v1 X.length (Lib.byteCells X)) ∧ Hid (Below w.heap.size w wr2)) (fun _ jv _ => (intOf jv + 1).toNat)
        case atStart => exact ⟨[], k, 4097, rfl, by omega, by omega, fun _ => by omega, by rw [if_pos (by omega), Int.toNat_natCast, List.nil_append]; rfl, World.ownsRow_nil _ _ _ _, HX, HW⟩
        case round =>
          clear HX HW
          obtain ⟨acc, j, f, rfl, hj1, hjk, HJF, HE, HC, HX, HW⟩ := hrel
          have hB2 := HW.out.size
          have hal : acc.length ≤ 4097 := by
            have h1 := congrArg List.length HE.out
            have h2 := chainF_length (pr := par ps m) 4097 k
            rw [List.length_append] at h1
            omega
          by_cases hj : 0 ≤ j
          · obtain ⟨jn, rfl⟩ := Int.eq_ofNat_of_zero_le hj
            have hjf := HJF.out hj
            rw [Int.toNat_natCast] at hjf
            obtain ⟨f', rfl⟩ : ∃ f', f = f' + 1 := ⟨f - 1, by omega⟩
            have hE := HE.out
            rw [if_pos hj, Int.toNat_natCast, chainF_ne] at hE
            have HE' : Hid ((acc ++ [jn]) ++ (if 0 ≤ par ps m jn then chainF (par ps m) f' (par ps m jn).toNat else []) = chainF (par ps m) 4097 k) := by
              show (acc ++ [jn]) ++ _ = _
              rw [← hE, List.append_assoc]; rfl
            have hownC := HC.out
            clear hE HE HJF
            go_wp2_with (at_builtin; refine wpList_append_own _ rfl (.tmp 33) (.tmp 35) 38 rfl w.heap.size 3 i3 (.int .i64 0) 1 8 Try.underlying38 hi3 hy0 hy1 hy2 rfl (by decide) _ _ _ rfl (hownC.alloc _) ⟨wr.heap.size, 0, none⟩ 1 1 [.int .i64 (jn : Int)] rfl rfl (one_cell _ _ _) (one_oneCell _ _) (by unfold maxLen; omega) (by omega) (by simp; omega) ?_)
            intro v3 w3 hown3 hg3 _
            have HC3 := hide (own_nat hown3 rfl)
            have HX3 := hide ((HX.out.alloc _).kept hg3 (own_ne HX.out hownC (by decide)))
            have HW3 := hide ((HW.out.alloc hB2 _).grown hg3 (by simp; omega) (fun k hk => (hownC.lt k hk).1))
            clear hown3 hg3 hownC HC HX HW
            go_wp2_with fail
            refine (parent_any b0 m cm ps jn _ (by unfold maxLen; omega) (by omega) (hP.below HW3.out (Nat.le_refl _))).mono ?_
            rintro e w4 ⟨rfl, rfl⟩
            have hup := hG.up jn (by omega)
            have hge := par_ge ps m jn
            obtain ⟨p, Hp⟩ : ∃ p, Hid (p = par ps m jn) := ⟨_, rfl⟩
            rw [← Hp.out] at hup hge HE' ⊢
            go_wp2_with fail
            go_roundw
            case rel => exact ⟨acc ++ [jn], p, f', rfl, hge, by omega, fun h => by omega, HE', HC3, HX3, HW3⟩
            case measure => simp [intOf]; omega
          · have hE := HE.out
            rw [if_neg hj, List.append_nil] at hE
            have HCH := hide hE
            have hne : acc ≠ [] := by rw [hE, chainF_ne]; simp
            have hpl : 0 < acc.length := by
              rcases Nat.eq_zero_or_pos acc.length with h | h
              · exact absurd (List.eq_nil_of_length_eq_zero h) hne
              · exact h
            obtain ⟨g, cap, rfl⟩ := own_slice HC.out hne
            clear hE HE HJF hne
            obtain rfl : j = -1 := by omega
            clear hj hj1 hjk
            go_wp2_with fail
            go_loopw [5, 9] (fun ov cv wr3 => ∃ z : Int, cv = .int .i64 z ∧ -1 ≤ z ∧ z < acc.length ∧ Hid (wr3.ownsRow w.heap.size 5 1 ov (outZ X (nml fun i => ss.getD i ByteArray.empty) acc z).length (Lib.byteCells (outZ X (nml fun i => ss.getD i ByteArray.empty) acc z))) ∧ Hid (wr3.ownsRow w.heap.size 3 1 (.slice (some ⟨g, 0, none⟩) acc.length cap) acc.length (natCells acc)) ∧ Hid (Below w.heap.size w wr3)) (fun _ cv _ => (intOf cv + 1).toNat)
            case atStart => exact ⟨(acc.length : Int) - 1, rfl, by omega, by omega, by rw [outZ_top _ _ _ hpl]; exact HX, HC, HW⟩
            case round =>
              clear HX HC HW
              obtain ⟨z, rfl, hzl1, hzl2, HX, HC, HW⟩ := hrel
              have hB3 := HW.out.size
              by_cases hz : 0 ≤ z
              · obtain ⟨zn, rfl⟩ := Int.eq_ofNat_of_zero_le hz
                have hzl : zn < acc.length := by omega
                obtain ⟨x, HXx⟩ : ∃ x, Hid (acc[zn]? = some x) := ⟨acc[zn], List.getElem?_eq_getElem hzl⟩
                have hxm : x ∈ acc := List.mem_of_getElem? HXx.out
                have hxk : x ≤ k := chainF_le 4097 k (fun y hy => hG.up y (by omega)) x (by rw [← HCH.out]; exact hxm)
                obtain ⟨b, off, rfl, hbl, hc, hs⟩ := hS.2 x (by omega)
                have hsz := hG.size x (by omega)
                have hc' : wr.cell? ⟨b, off + x, none⟩ = some (.string (ss.getD x ByteArray.empty)) := by rw [HW.out.cell (p := ⟨b, off + x, none⟩) hbl]; exact hc
                have hcz : wr.cell? ⟨g, zn, none⟩ = some (.int .i64 (x : Int)) := by
                  rw [HC.out.cellAt zn (by omega)]
                  unfold natCells
                  rw [List.getElem?_map, HXx.out]
                  rfl
                have hol : (outZ X (nml fun i => ss.getD i ByteArray.empty) acc zn).length ≤ 70373044177668 := outZ_len hXl hal hz (fun y hy => by
                  have := hG.size y (by
                    have := chainF_le 4097 k (fun y hy => hG.up y (by omega)) y (by rw [← HCH.out]; exact hy)
                    omega)
                  unfold nml
                  rw [Array.length_toList]
                  exact this)
                have hst := outZ_step X (nml fun i => ss.getD i ByteArray.empty) acc zn x HXx.out
                rw [show nml (fun i => ss.getD i ByteArray.empty) x = (ss.getD x ByteArray.empty).data.toList from rfl] at hst
                have HST := hide hst
                obtain ⟨s, Hs⟩ : ∃ s, Hid (s = ss.getD x ByteArray.empty) := ⟨_, rfl⟩
                rw [← Hs.out] at hc' hsz HST
                have hown := HX.out
                clear hc hs hst hxm
                generalize outZ X (nml fun i => ss.getD i ByteArray.empty) acc zn = Y at *
                go_wp2_with (at_builtin; refine Lib.wpList_append_own_string _ rfl (.tmp 44) (.tmp 51) 60 9 rfl w.heap.size 5 i0 Try.underlying60 Try.underlying9 hi hz0 hz1 hz2 _ _ _ rfl hown s rfl (by unfold maxLen; omega) (by omega) (by omega) ?_)
                intro v3 w3 hown3 hg3 _
                have HX3 := hide (own_str hown3 rfl)
                have HC3 := hide (HC.out.kept hg3 (own_ne HC.out hown (by decide)))
                have HW3 := hide (HW.out.grown hg3 hB3 (fun k hk => (hown.lt k hk).1))
                clear hown3 hg3 hown HX HC HW hc' hcz
                have hB4 := HW3.out.size
                have hown := HX3.out
                have hl3 : (Y ++ s.data.toList).length ≤ 70373045226244 := by
                  have h2 : s.data.toList.length = s.size := Array.length_toList
                  rw [List.length_append, h2]
                  omega
                generalize Y ++ s.data.toList = Y3 at *
                go_wp2_with (at_builtin; refine Lib.wpList_append_own_string _ rfl (.tmp 53) _ 60 9 rfl w.heap.size 5 i0 Try.underlying60 Try.underlying9 hi hz0 hz1 hz2 _ _ _ rfl hown ⟨#[47, 60, 110, 97, 109, 101, 62]⟩ rfl (by show _ + 7 ≤ _; unfold maxLen; omega) (by show _ + 7 ≤ _; omega) (by omega) ?_)
                intro v4 w4 hown4 hg4 _
                have HX4 := hide (own_str (l' := Y3 ++ sufL) hown4 rfl)
                have HC4 := hide (HC3.out.kept hg4 (own_ne HC3.out hown (by decide)))
                have HW4 := hide (HW3.out.grown hg4 hB4 (fun k hk => (hown.lt k hk).1))
                clear hown4 hg4 hown HX3 HC3 HW3
                have hB5 := HW4.out.size
                by_cases hz0' : 0 < zn
                · have hst1 := HST.out.1 hz0'
                  have hown := HX4.out
                  have hl4 : (Y3 ++ sufL).length ≤ 70373045226251 := by
                    rw [List.length_append]
                    have : sufL.length = 7 := rfl
                    omega
                  have HST1 := hide hst1
                  clear hst1 HST
                  generalize Y3 ++ sufL = Y4 at *
                  go_wp2_with (at_builtin; refine wpList_append_own _ rfl (.tmp 57) (.tmp 58) 60 rfl w.heap.size 5 i0 (.int .u8 0) 1 1 Try.underlying60 hi hz0 hz1 hz2 rfl (by decide) _ _ _ rfl (hown.alloc _) ⟨w4.heap.size, 0, none⟩ 1 1 [.int .u8 47] rfl rfl (one_cell _ _ _) (one_oneCell _ _) (by unfold maxLen; omega) (by omega) (by simp; omega) ?_)
                  intro v5 w5 hown5 hg5 _
                  have HX5 := hide (own_byte (c := 47) hown5 HST1.out)
                  have HC5 := hide ((HC4.out.alloc _).kept hg5 (own_ne HC4.out hown (by decide)))
                  have HW5 := hide ((HW4.out.alloc hB5 _).grown hg5 (by simp; omega) (fun k hk => (hown.lt k hk).1))
                  clear hown5 hg5 hown HX4 HC4 HW4
                  go_wp2_with fail
                  go_roundw
                  case rel => exact ⟨(zn : Int) - 1, rfl, by omega, by omega, HX5, HC5, HW5⟩
                  case measure => first | (simp [intOf]; omega) | simp [intOf]
                · have hzz : zn = 0 := by omega
                  have hst1 := HST.out.2 hzz
                  rw [← hst1] at HX4
                  clear hst1 HST
                  have hzi : ((zn : Int) - 1) = -1 := by omega
                  have HZI := hide hzi
                  clear hzz hzi
                  go_wp2_with fail
                  go_roundw
                  case rel => exact ⟨-1, by rw [HZI.out], by omega, by omega, HX4, HC4, HW4⟩
                  case measure => first | (simp [intOf]; omega) | simp [intOf]
              · obtain rfl : z = -1 := by omega
                have hfin : outZ X (nml fun i => ss.getD i ByteArray.empty) acc (-1) = wantL F n (k + 1) := by
                  unfold outZ
                  rw [if_neg (by omega), HCH.out, (wrt_form (nm := nml fun i => ss.getD i ByteArray.empty) 4097 k (by omega) (fun y hy => hG.up y (by omega))).1, HXE.out, wantL, HF.out]
                  rfl
                rw [hfin] at HX
                clear hfin hz hzl1 hzl2
                go_wp2_with fail
                go_roundw
                case rel => exact ⟨k + 1, by omega, by go_num, HX, HW⟩
                case measure => simp [intOf]; omega
      · have hsep : wantL F n k ++ sepL n k = wantL F n k ++ [44, 32] := by unfold sepL; rw [if_neg hc0, if_neg hc]
        have HSEP := hide hsep
        have hd : ((k : Int) == (n : Int) - 1) = false := beq_eq_false_iff_ne.2 (by omega)
        have hown := HO.out
        have hk0 : decide (0 < k) = true := by simp; omega
        clear hsep hc hc0
        go_wp2_with (at_builtin; refine Lib.wpList_append_own_string _ rfl (.tmp 25) _ 60 9 rfl w.heap.size 5 i0 Try.underlying60 Try.underlying9 hi hz0 hz1 hz2 _ _ _ rfl hown ⟨#[44, 32]⟩ rfl ?da ?db ?dc ?_)
        case da => show _ + 2 ≤ _; unfold maxLen; omega
        case db => show _ + 2 ≤ _; omega
        case dc => omega
        intro v1 w1 hown1 hg1 _
        have HX := hide (own_str hown1 HSEP.out)
        have HW := hide (HB.out.grown hg1 hBw (fun k hk => (hown.lt k hk).1))
        clear hown1 hg1 hown hBw HB HO HSEP
        go_wp2_with fail
        clear hd hk0
        obtain ⟨X, HXE⟩ : ∃ X, Hid (X = wantL F n k ++ sepL n k) := ⟨_, rfl⟩
        rw [← HXE.out] at HX
        have hXl : X.length ≤ 70368744177668 := by
          rw [HXE.out, List.length_append]
          have := sepL_len n k
          omega
        go_loopw [7, 8] (fun cv jv wr2 => ∃ (acc : List Nat) (j : Int) (f : Nat), jv = .int .i64 j ∧ -1 ≤ j ∧ j ≤ k ∧ Hid (0 ≤ j → j.toNat < f) ∧ Hid (acc ++ (if 0 ≤ j then chainF (par ps m) f j.toNat else []) = chainF (par ps m) 4097 k) ∧ Hid (wr2.ownsRow w.heap.size 3 1 cv acc.length (natCells acc)) ∧ Hid (wr2.ownsRow w.heap.size 5 1 v1 X.length (Lib.byteCells X)) ∧ Hid (Below w.heap.size w wr2)) (fun _ jv _ => (intOf jv + 1).toNat)
        case atStart => exact ⟨[], k, 4097, rfl, by omega, by omega, fun _ => by omega, by rw [if_pos (by omega), Int.toNat_natCast, List.nil_append]; rfl, World.ownsRow_nil _ _ _ _, HX, HW⟩
        case round =>
          clear HX HW
          obtain ⟨acc, j, f, rfl, hj1, hjk, HJF, HE, HC, HX, HW⟩ := hrel
          have hB2 := HW.out.size
          have hal : acc.length ≤ 4097 := by
            have h1 := congrArg List.length HE.out
            have h2 := chainF_length (pr := par ps m) 4097 k
            rw [List.length_append] at h1
            omega
          by_cases hj : 0 ≤ j
          · obtain ⟨jn, rfl⟩ := Int.eq_ofNat_of_zero_le hj
            have hjf := HJF.out hj
            rw [Int.toNat_natCast] at hjf
            obtain ⟨f', rfl⟩ : ∃ f', f = f' + 1 := ⟨f - 1, by omega⟩
            have hE := HE.out
            rw [if_pos hj, Int.toNat_natCast, chainF_ne] at hE
            have HE' : Hid ((acc ++ [jn]) ++ (if 0 ≤ par ps m jn then chainF (par ps m) f' (par ps m jn).toNat else []) = chainF (par ps m) 4097 k) := by
              show (acc ++ [jn]) ++ _ = _
              rw [← hE, List.append_assoc]; rfl
            have hownC := HC.out
            clear hE HE HJF
            go_wp2_with (at_builtin; refine wpList_append_own _ rfl (.tmp 33) (.tmp 35) 38 rfl w.heap.size 3 i3 (.int .i64 0) 1 8 Try.underlying38 hi3 hy0 hy1 hy2 rfl (by decide) _ _ _ rfl (hownC.alloc _) ⟨wr.heap.size, 0, none⟩ 1 1 [.int .i64 (jn : Int)] rfl rfl (one_cell _ _ _) (one_oneCell _ _) (by unfold maxLen; omega) (by omega) (by simp; omega) ?_)
            intro v3 w3 hown3 hg3 _
            have HC3 := hide (own_nat hown3 rfl)
            have HX3 := hide ((HX.out.alloc _).kept hg3 (own_ne HX.out hownC (by decide)))
            have HW3 := hide ((HW.out.alloc hB2 _).grown hg3 (by simp; omega) (fun k hk => (hownC.lt k hk).1))
            clear hown3 hg3 hownC HC HX HW
            go_wp2_with fail
            refine (parent_any b0 m cm ps jn _ (by unfold maxLen; omega) (by omega) (hP.below HW3.out (Nat.le_refl _))).mono ?_
            rintro e w4 ⟨rfl, rfl⟩
            have hup := hG.up jn (by omega)
            have hge := par_ge ps m jn
            obtain ⟨p, Hp⟩ : ∃ p, Hid (p = par ps m jn) := ⟨_, rfl⟩
            rw [← Hp.out] at hup hge HE' ⊢
            go_wp2_with fail
            go_roundw
            case rel => exact ⟨acc ++ [jn], p, f', rfl, hge, by omega, fun h => by omega, HE', HC3, HX3, HW3⟩
            case measure => simp [intOf]; omega
          · have hE := HE.out
            rw [if_neg hj, List.append_nil] at hE
            have HCH := hide hE
            have hne : acc ≠ [] := by rw [hE, chainF_ne]; simp
            have hpl : 0 < acc.length := by
              rcases Nat.eq_zero_or_pos acc.length with h | h
              · exact absurd (List.eq_nil_of_length_eq_zero h) hne
              · exact h
            obtain ⟨g, cap, rfl⟩ := own_slice HC.out hne
            clear hE HE HJF hne
            obtain rfl : j = -1 := by omega
            clear hj hj1 hjk
            go_wp2_with fail
            go_loopw [5, 9] (fun ov cv wr3 => ∃ z : Int, cv = .int .i64 z ∧ -1 ≤ z ∧ z < acc.length ∧ Hid (wr3.ownsRow w.heap.size 5 1 ov (outZ X (nml fun i => ss.getD i ByteArray.empty) acc z).length (Lib.byteCells (outZ X (nml fun i => ss.getD i ByteArray.empty) acc z))) ∧ Hid (wr3.ownsRow w.heap.size 3 1 (.slice (some ⟨g, 0, none⟩) acc.length cap) acc.length (natCells acc)) ∧ Hid (Below w.heap.size w wr3)) (fun _ cv _ => (intOf cv + 1).toNat)
            case atStart => exact ⟨(acc.length : Int) - 1, rfl, by omega, by omega, by rw [outZ_top _ _ _ hpl]; exact HX, HC, HW⟩
            case round =>
              clear HX HC HW
              obtain ⟨z, rfl, hzl1, hzl2, HX, HC, HW⟩ := hrel
              have hB3 := HW.out.size
              by_cases hz : 0 ≤ z
              · obtain ⟨zn, rfl⟩ := Int.eq_ofNat_of_zero_le hz
                have hzl : zn < acc.length := by omega
                obtain ⟨x, HXx⟩ : ∃ x, Hid (acc[zn]? = some x) := ⟨acc[zn], List.getElem?_eq_getElem hzl⟩
                have hxm : x ∈ acc := List.mem_of_getElem? HXx.out
                have hxk : x ≤ k := chainF_le 4097 k (fun y hy => hG.up y (by omega)) x (by rw [← HCH.out]; exact hxm)
                obtain ⟨b, off, rfl, hbl, hc, hs⟩ := hS.2 x (by omega)
                have hsz := hG.size x (by omega)
                have hc' : wr.cell? ⟨b, off + x, none⟩ = some (.string (ss.getD x ByteArray.empty)) := by rw [HW.out.cell (p := ⟨b, off + x, none⟩) hbl]; exact hc
                have hcz : wr.cell? ⟨g, zn, none⟩ = some (.int .i64 (x : Int)) := by
                  rw [HC.out.cellAt zn (by omega)]
                  unfold natCells
                  rw [List.getElem?_map, HXx.out]
                  rfl
                have hol : (outZ X (nml fun i => ss.getD i ByteArray.empty) acc zn).length ≤ 70373044177668 := outZ_len hXl hal hz (fun y hy => by
                  have := hG.size y (by
                    have := chainF_le 4097 k (fun y hy => hG.up y (by omega)) y (by rw [← HCH.out]; exact hy)
                    omega)
                  unfold nml
                  rw [Array.length_toList]
                  exact this)
                have hst := outZ_step X (nml fun i => ss.getD i ByteArray.empty) acc zn x HXx.out
                rw [show nml (fun i => ss.getD i ByteArray.empty) x = (ss.getD x ByteArray.empty).data.toList from rfl] at hst
                have HST := hide hst
                obtain ⟨s, Hs⟩ : ∃ s, Hid (s = ss.getD x ByteArray.empty) := ⟨_, rfl⟩
                rw [← Hs.out] at hc' hsz HST
                have hown := HX.out
                clear hc hs hst hxm
                generalize outZ X (nml fun i => ss.getD i ByteArray.empty) acc zn = Y at *
                go_wp2_with (at_builtin; refine Lib.wpList_append_own_string _ rfl (.tmp 44) (.tmp 51) 60 9 rfl w.heap.size 5 i0 Try.underlying60 Try.underlying9 hi hz0 hz1 hz2 _ _ _ rfl hown s rfl (by unfold maxLen; omega) (by omega) (by omega) ?_)
                intro v3 w3 hown3 hg3 _
                have HX3 := hide (own_str hown3 rfl)
                have HC3 := hide (HC.out.kept hg3 (own_ne HC.out hown (by decide)))
                have HW3 := hide (HW.out.grown hg3 hB3 (fun k hk => (hown.lt k hk).1))
                clear hown3 hg3 hown HX HC HW hc' hcz
                have hB4 := HW3.out.size
                have hown := HX3.out
                have hl3 : (Y ++ s.data.toList).length ≤ 70373045226244 := by
                  have h2 : s.data.toList.length = s.size := Array.length_toList
                  rw [List.length_append, h2]
                  omega
                generalize Y ++ s.data.toList = Y3 at *
                go_wp2_with (at_builtin; refine Lib.wpList_append_own_string _ rfl (.tmp 53) _ 60 9 rfl w.heap.size 5 i0 Try.underlying60 Try.underlying9 hi hz0 hz1 hz2 _ _ _ rfl hown ⟨#[47, 60, 110, 97, 109, 101, 62]⟩ rfl (by show _ + 7 ≤ _; unfold maxLen; omega) (by show _ + 7 ≤ _; omega) (by omega) ?_)
                intro v4 w4 hown4 hg4 _
                have HX4 := hide (own_str (l' := Y3 ++ sufL) hown4 rfl)
                have HC4 := hide (HC3.out.kept hg4 (own_ne HC3.out hown (by decide)))
                have HW4 := hide (HW3.out.grown hg4 hB4 (fun k hk => (hown.lt k hk).1))
                clear hown4 hg4 hown HX3 HC3 HW3
                have hB5 := HW4.out.size
                by_cases hz0' : 0 < zn
                · have hst1 := HST.out.1 hz0'
                  have hown := HX4.out
                  have hl4 : (Y3 ++ sufL).length ≤ 70373045226251 := by
                    rw [List.length_append]
                    have : sufL.length = 7 := rfl
                    omega
                  have HST1 := hide hst1
                  clear hst1 HST
                  generalize Y3 ++ sufL = Y4 at *
                  go_wp2_with (at_builtin; refine wpList_append_own _ rfl (.tmp 57) (.tmp 58) 60 rfl w.heap.size 5 i0 (.int .u8 0) 1 1 Try.underlying60 hi hz0 hz1 hz2 rfl (by decide) _ _ _ rfl (hown.alloc _) ⟨w4.heap.size, 0, none⟩ 1 1 [.int .u8 47] rfl rfl (one_cell _ _ _) (one_oneCell _ _) (by unfold maxLen; omega) (by omega) (by simp; omega) ?_)
                  intro v5 w5 hown5 hg5 _
                  have HX5 := hide (own_byte (c := 47) hown5 HST1.out)
                  have HC5 := hide ((HC4.out.alloc _).kept hg5 (own_ne HC4.out hown (by decide)))
                  have HW5 := hide ((HW4.out.alloc hB5 _).grown hg5 (by simp; omega) (fun k hk => (hown.lt k hk).1))
                  clear hown5 hg5 hown HX4 HC4 HW4
                  go_wp2_with fail
                  go_roundw
                  case rel => exact ⟨(zn : Int) - 1, rfl, by omega, by omega, HX5, HC5, HW5⟩
                  case measure => first | (simp [intOf]; omega) | simp [intOf]
                · have hzz : zn = 0 := by omega
                  have hst1 := HST.out.2 hzz
                  rw [← hst1] at HX4
                  clear hst1 HST
                  have hzi : ((zn : Int) - 1) = -1 := by omega
                  have HZI := hide hzi
                  clear hzz hzi
                  go_wp2_with fail
                  go_roundw
                  case rel => exact ⟨-1, by rw [HZI.out], by omega, by omega, HX4, HC4, HW4⟩
                  case measure => first | (simp [intOf]; omega) | simp [intOf]
              · obtain rfl : z = -1 := by omega
                have hfin : outZ X (nml fun i => ss.getD i ByteArray.empty) acc (-1) = wantL F n (k + 1) := by
                  unfold outZ
                  rw [if_neg (by omega), HCH.out, (wrt_form (nm := nml fun i => ss.getD i ByteArray.empty) 4097 k (by omega) (fun y hy => hG.up y (by omega))).1, HXE.out, wantL, HF.out]
                  rfl
                rw [hfin] at HX
                clear hfin hz hzl1 hzl2
                go_wp2_with fail
                go_roundw
                case rel => exact ⟨k + 1, by omega, by go_num, HX, HW⟩
                case measure => simp [intOf]; omega
    · have hkn : k = n := by omega
      subst hkn
      have hne : wantL F k k ≠ [] := by
        intro h0
        have := HNE.out (k - 1) (by omega)
        obtain ⟨q, rfl⟩ : ∃ q, k = q + 1 := ⟨k - 1, by omega⟩
        rw [wantL] at h0
        have h1 := congrArg List.length h0
        simp only [List.length_append, List.length_nil, Nat.add_sub_cancel] at h1 this
        omega
      have hstr := row_string HO.out hne
      clear hne
      go_wp2_with fail
      go_ret
      exact ⟨rfl, HB.out⟩
end Go.Proofs.Qxb6602891a
