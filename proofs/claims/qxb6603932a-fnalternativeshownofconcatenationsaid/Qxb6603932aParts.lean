/-
  b1PartsOf (22), alternativeShown (27), ZZalternativeShown (21): contracts. By an AI agent.
-/
import Derived.Test.Qxb6603932aStrs
import Derived.Deep.OwnRows
namespace Go.Proofs.Qxb6603932a
open Go.ChangeShapes Go.WideShapes Go.ChangeAt Go.RowKit

theorem Try.info37 : (Try.prog.info? 37).map (fun i => (i.zero, i.size, i.bytes)) = some (some (.agg #[.int .i64 0, .string ByteArray.empty, .string ByteArray.empty, .bool false, .bool false, .string ByteArray.empty, .slice none 0 0]), 7, 88) := by kernel_rfl

/-- Cell m of a message.Part whose Type is s and that is else the zero value. -/
def partCell (s : ByteArray) : Nat → Value
  | 0 => .int .i64 0
  | 1 => .string s
  | 2 => .string ByteArray.empty
  | 3 => .bool false
  | 4 => .bool false
  | 5 => .string ByteArray.empty
  | _ => .slice none 0 0

/-- Block b is a row of n parts, part i of Type 'ts i'. -/
def PartsRow (w : World) (b n : Nat) (ts : Nat → ByteArray) : Prop := w.rowIs b 37 (n * 7) (fun i => partCell (ts (i / 7)) (i % 7))

/-- The cells of n zero parts. -/
def zeroParts (n : Nat) : Array Value := madeCells (Value.cells (.agg #[.int .i64 0, .string ByteArray.empty, .string ByteArray.empty, .bool false, .bool false, .string ByteArray.empty, .slice none 0 0])) (n * 7)

theorem partsRow_made (w : World) (n : Nat) : PartsRow (w.alloc (.cells (zeroParts n) 37)) w.heap.size n (fun _ => ByteArray.empty) := by
  refine ⟨_, Deep.blk_alloc_new _ _, size_madeCells _ _, fun i hi => ?_⟩
  have h7 : i % 7 < 7 := Nat.mod_lt _ (by decide)
  simp [zeroParts, madeCells, hi, Value.cells]
  generalize i % 7 = m at *
  match m, h7 with
  | 0, _ => rfl
  | 1, _ => rfl
  | 2, _ => rfl
  | 3, _ => rfl
  | 4, _ => rfl
  | 5, _ => rfl
  | 6, _ => rfl

theorem run_make_parts (la lb : Nat) (h : la + lb ≤ 1048576) (w : World) :
    (Instr.makeSlice 31 (.int .i64 ((la : Int) + (lb : Int))) (.int .i64 ((la : Int) + (lb : Int)))).run Try.prog w = .ok (.slice (some ⟨w.heap.size, 0, none⟩) (la + lb) (la + lb)) (w.alloc (.cells (zeroParts (la + lb)) 37)) := by
  obtain ⟨i, hi, hz, hs, hb⟩ := info_parts Try.info37
  have hr := run_make (P := Try.prog) w 31 37 i _ Try.underlying31 hi hz .i64 .i64 ((la + lb : Nat) : Int) ((la + lb : Nat) : Int) (by omega) (Int.le_refl _) (by rw [hb]; omega) (by omega)
  rw [hs, Int.toNat_natCast] at hr
  simpa only [Int.natCast_add, zeroParts] using hr

theorem partsRow_set {w : World} {b n : Nat} {ts : Nat → ByteArray} (h : PartsRow w b n ts) (k : Nat) (s : ByteArray) :
    PartsRow (w.setCell ⟨b, k * 7 + 1, none⟩ (.string s)) b n (fun i => if i = k then s else ts i) := by
  refine (World.rowIs.set h (k * 7 + 1) (.string s)).congr fun j _ => ?_
  show (if j = k * 7 + 1 then Value.string s else partCell (ts (j / 7)) (j % 7)) = partCell (if j / 7 = k then s else ts (j / 7)) (j % 7)
  by_cases e : j = k * 7 + 1
  · subst e
    rw [if_pos rfl, show (k * 7 + 1) / 7 = k by omega, show (k * 7 + 1) % 7 = 1 by omega, if_pos rfl]
    rfl
  · rw [if_neg e]
    by_cases e2 : j / 7 = k
    · subst e2
      rw [if_pos rfl]
      have h7 : j % 7 < 7 := Nat.mod_lt _ (by decide)
      have h1 : j % 7 ≠ 1 := by omega
      generalize j % 7 = m at *
      match m, h7, h1 with
      | 0, _, _ => rfl
      | 1, _, h => exact absurd rfl h
      | 2, _, _ => rfl
      | 3, _, _ => rfl
      | 4, _, _ => rfl
      | 5, _, _ => rfl
      | 6, _, _ => rfl
    · rw [if_neg e2]

theorem partsRow_congr {w : World} {b n : Nat} {ts us : Nat → ByteArray} (h : PartsRow w b n ts) (e : ∀ i, i < n → ts i = us i) : PartsRow w b n us :=
  World.rowIs.congr h fun j hj => by rw [e (j / 7) (by omega)]

theorem partsRow_cell {w : World} {b n : Nat} {ts : Nat → ByteArray} (h : PartsRow w b n ts) {k : Nat} (hk : k < n) (m : Nat) (hm : m < 7) : w.cell? ⟨b, k * 7 + m, none⟩ = some (partCell (ts k) m) := by
  have := World.rowIs.cell h (i := k * 7 + m) (by omega)
  rw [show (k * 7 + m) / 7 = k by omega, show (k * 7 + m) % 7 = m by omega] at this
  exact this

/-- What b1PartsOf's parts hold when i of the first list and j of the second are laid. -/
def upTo (sa sb : List ByteArray) (la i j : Nat) (k : Nat) : ByteArray :=
  if k < la then (if k < i then sa.getD k ByteArray.empty else ByteArray.empty) else if k - la < j then sb.getD (k - la) ByteArray.empty else ByteArray.empty

theorem upTo_a {sa sb : List ByteArray} {la k : Nat} (hlt : k < la) (i : Nat) : (if i = k then sa[k]?.getD ByteArray.empty else upTo sa sb la k 0 i) = upTo sa sb la (k + 1) 0 i := by
  unfold upTo
  by_cases e : i = k
  · subst e
    simp [hlt]
  · rw [if_neg e]
    by_cases h : i < la
    · by_cases h2 : i < k
      · simp [h, h2, show i < k + 1 by omega]
      · simp [h, h2, show ¬ i < k + 1 by omega]
    · simp [h]

theorem upTo_b {sa sb : List ByteArray} {la q : Nat} (i : Nat) : (if i = la + q then sb[q]?.getD ByteArray.empty else upTo sa sb la la q i) = upTo sa sb la la (q + 1) i := by
  unfold upTo
  by_cases e : i = la + q
  · subst e
    simp [show ¬ la + q < la by omega]
  · rw [if_neg e]
    by_cases h : i < la
    · simp [h]
    · by_cases h2 : i - la < q
      · simp [h, h2, show i - la < q + 1 by omega]
      · simp [h, h2, show ¬ i - la < q + 1 by omega]

set_option maxHeartbeats 800000 in
theorem partsOf_some (a0 b0 : Option Addr) (la ca lb cb : Nat) (sa sb : List ByteArray) (w : World) (ha : la ≤ 65536) (hb : lb ≤ 65536) (hne : 0 < la + lb) (hA : StrsAt w a0 la sa) (hB : StrsAt w b0 lb sb) :
    Calls Try.prog 22 #[.slice a0 la ca, .slice b0 lb cb] w fun e w' => e = .returned (.slice (some ⟨w.heap.size, 0, none⟩) (la + lb) (la + lb)) ∧ PartsRow w' w.heap.size (la + lb) (upTo sa sb la la lb) ∧ Below w.heap.size w w' := by
  have hmk := run_make_parts la lb (by omega)
  have hz : ((la : Int) + (lb : Int) == 0) = false := beq_eq_false_iff_ne.2 (by omega)
  have h0 := partsRow_made w (la + lb)
  have hbel : Below w.heap.size w (w.alloc (.cells (zeroParts (la + lb)) 37)) := (Below.refl _ _).alloc (Nat.le_refl _) _
  go_enter Try.func22, Try.ntmps22
  go_wp2
  clear hmk hz
  go_loopw [6] (fun i wr => ∃ k : Nat, k ≤ la ∧ i = .int .i64 k ∧ PartsRow wr w.heap.size (la + lb) (upTo sa sb la k 0) ∧ Below w.heap.size w wr) (fun i _ => la - (intOf i).toNat)
  case atStart => exact ⟨0, Nat.zero_le _, rfl, partsRow_congr h0 (by intro i _; simp [upTo]), hbel⟩
  case round =>
    obtain ⟨k, hk, rfl, hrow, hbw⟩ := hrel
    clear h0 hbel
    by_cases hlt : k < la
    · obtain ⟨b, off, rfl, hbl, hc, hs⟩ := hA.2 k hlt
      have hc' : wr.cell? ⟨b, off + k, none⟩ = some (.string (sa.getD k ByteArray.empty)) := by rw [hbw.cell (p := ⟨b, off + k, none⟩) hbl]; exact hc
      have hcell := partsRow_cell hrow (k := k) (by omega) 1 (by omega)
      have hfz : wr.frozen? ⟨w.heap.size, k * 7 + 1, none⟩ = false := World.rowIs.frozen hrow _
      clear hc
      go_wp2
      go_roundw
      case rel =>
        refine ⟨k + 1, by omega, by go_num, partsRow_congr (partsRow_set hrow k _) ?_, hbw.setCell (p := ⟨w.heap.size, k * 7 + 1, none⟩) (Nat.le_refl _) _⟩
        intro i hi
        exact upTo_a hlt i
      case measure => simp [intOf]; omega
    · have hka : k = la := by omega
      subst hka
      clear hlt
      go_wp2
      go_loopw [7] (fun j wr => ∃ q : Nat, q ≤ lb ∧ j = .int .i64 q ∧ PartsRow wr w.heap.size (k + lb) (upTo sa sb k k q) ∧ Below w.heap.size w wr) (fun j _ => lb - (intOf j).toNat)
      case atStart => exact ⟨0, Nat.zero_le _, rfl, hrow, hbw⟩
      case round =>
        clear hrow hbw
        obtain ⟨q, hq, rfl, hrow, hbw⟩ := hrel
        by_cases hlt : q < lb
        · obtain ⟨b, off, rfl, hbl, hc, hs⟩ := hB.2 q hlt
          have hc' : wr.cell? ⟨b, off + q, none⟩ = some (.string (sb.getD q ByteArray.empty)) := by rw [hbw.cell (p := ⟨b, off + q, none⟩) hbl]; exact hc
          have hcell := partsRow_cell hrow (k := k + q) (by omega) 1 (by omega)
          have hfz : wr.frozen? ⟨w.heap.size, (k + q) * 7 + 1, none⟩ = false := World.rowIs.frozen hrow _
          clear hc
          go_wp2
          go_roundw
          case rel =>
            refine ⟨q + 1, by omega, by go_num, partsRow_congr (partsRow_set hrow (k + q) _) ?_, hbw.setCell (p := ⟨w.heap.size, (k + q) * 7 + 1, none⟩) (Nat.le_refl _) _⟩
            intro i hi
            exact upTo_b i
          case measure => simp [intOf]; omega
        · have hqb : q = lb := by omega
          subst hqb
          go_wp2
          go_ret
          exact ⟨rfl, hrow, hbw⟩

set_option maxHeartbeats 400000 in
theorem partsOf_none (a0 b0 : Option Addr) (ca cb : Nat) (w : World) :
    Calls Try.prog 22 #[.slice a0 0 ca, .slice b0 0 cb] w fun e w' => e = .returned (.slice none 0 0) ∧ w' = w := by
  go_enter Try.func22, Try.ntmps22
  go_wp2
  go_ret
  exact ⟨rfl, rfl⟩

set_option maxHeartbeats 400000 in
theorem shown_none (w : World) :
    Calls Try.prog 27 #[.slice none 0 0] w fun e w' => e = .returned (.int .i64 0) ∧ w' = w := by
  go_enter Try.func27, Try.ntmps27
  go_wp2
  refine wp_loop_rounds 1 ?_; rw [rounds_succ]; go_wp2
  go_ret
  exact ⟨rfl, rfl⟩

/-- 'text/plain' and 'text/html', byte by byte. -/
def plainL : List UInt8 := [116, 101, 120, 116, 47, 112, 108, 97, 105, 110]
def htmlL : List UInt8 := [116, 101, 120, 116, 47, 104, 116, 109, 108]

/-- What alternativeShown's loop still has to do: index, the html index so far, what is left. -/
def shownFrom : Nat → Int → List (List UInt8) → Int
  | _, h, [] => max h 0
  | i, h, t :: ts => if t = plainL then i else if t = htmlL ∧ h < 0 then shownFrom (i + 1) i ts else shownFrom (i + 1) h ts

theorem drop_at {tl : List (List UInt8)} {k : Nat} {t : List UInt8} (h : tl[k]? = some t) : tl.drop k = t :: tl.drop (k + 1) := by
  obtain ⟨hk, e⟩ := List.getElem?_eq_some_iff.1 h
  rw [List.drop_eq_getElem_cons hk, e]

theorem sf_plain {tl : List (List UInt8)} {k : Nat} {hh : Int} {t : List UInt8} (h : tl[k]? = some t) (e : (t == [116, 101, 120, 116, 47, 112, 108, 97, 105, 110]) = true) : shownFrom k hh (tl.drop k) = k := by
  rw [drop_at h, shownFrom, if_pos (show t = plainL from eq_of_beq e)]

theorem sf_html {tl : List (List UInt8)} {k : Nat} {hh : Int} {t : List UInt8} (h : tl[k]? = some t) (e : (t == [116, 101, 120, 116, 47, 112, 108, 97, 105, 110]) = false) (e2 : t = [116, 101, 120, 116, 47, 104, 116, 109, 108]) (hn : hh < 0) :
    shownFrom k hh (tl.drop k) = shownFrom (k + 1) k (tl.drop (k + 1)) := by
  rw [drop_at h, shownFrom, if_neg (show ¬ t = plainL from ne_of_beq_false e), if_pos ⟨e2, hn⟩]

theorem sf_html2 {tl : List (List UInt8)} {k : Nat} {hh : Int} {t : List UInt8} (h : tl[k]? = some t) (e : (t == [116, 101, 120, 116, 47, 112, 108, 97, 105, 110]) = false) (hn : 0 ≤ hh) :
    shownFrom k hh (tl.drop k) = shownFrom (k + 1) hh (tl.drop (k + 1)) := by
  rw [drop_at h, shownFrom, if_neg (show ¬ t = plainL from ne_of_beq_false e), if_neg (by omega)]

theorem sf_other {tl : List (List UInt8)} {k : Nat} {hh : Int} {t : List UInt8} (h : tl[k]? = some t) (e : (t == [116, 101, 120, 116, 47, 112, 108, 97, 105, 110]) = false) (e2 : ¬ t = [116, 101, 120, 116, 47, 104, 116, 109, 108]) :
    shownFrom k hh (tl.drop k) = shownFrom (k + 1) hh (tl.drop (k + 1)) := by
  rw [drop_at h, shownFrom, if_neg (show ¬ t = plainL from ne_of_beq_false e), if_neg (fun h => e2 h.1)]

theorem sf_end {tl : List (List UInt8)} {k : Nat} {hh : Int} (h : tl.length ≤ k) : shownFrom k hh (tl.drop k) = max hh 0 := by
  rw [List.drop_eq_nil_of_le h, shownFrom]

set_option maxHeartbeats 800000 in
theorem shown_some (blk n : Nat) (ts : Nat → ByteArray) (tl : List (List UInt8)) (w : World) (hn : n ≤ 1048576) (hlen : tl.length = n) (htl : ∀ i, i < n → tl[i]? = some (ts i).toList) (hrow : PartsRow w blk n ts) :
    Calls Try.prog 27 #[.slice (some ⟨blk, 0, none⟩) n n] w fun e w' => e = .returned (.int .i64 (shownFrom 0 (-1) tl)) ∧ Below w.heap.size w w' := by
  have hblk : blk < w.heap.size := World.rowIs.lt hrow
  go_enter Try.func27, Try.ntmps27
  go_wp2
  go_loopw [3, 8] (fun h i wr => ∃ (k : Nat) (hh : Int), k ≤ n ∧ i = .int .i64 k ∧ h = .int .i64 hh ∧ -1 ≤ hh ∧ hh ≤ n ∧ shownFrom k hh (tl.drop k) = shownFrom 0 (-1) tl ∧ Below w.heap.size w wr) (fun _ i _ => n - (intOf i).toNat)
  case atStart => exact ⟨0, -1, Nat.zero_le _, rfl, rfl, by omega, by omega, rfl, Below.refl _ _⟩
  case round =>
    obtain ⟨k, hh, hk, rfl, rfl, hlo, hhi, hsh, hbw⟩ := hrel
    have HS : Hid (shownFrom k hh (tl.drop k) = shownFrom 0 (-1) tl) := hsh
    clear hsh
    by_cases hlt : k < n
    · have hat := htl k hlt
      have Hat : Hid (tl[k]? = some (ts k).toList) := hat
      have hc : ∀ m, m < 7 → wr.cell? ⟨blk, k * 7 + m, none⟩ = some (partCell (ts k) m) := fun m hm => by
        rw [hbw.cell (p := ⟨blk, k * 7 + m, none⟩) hblk]; exact partsRow_cell hrow hlt m hm
      have c0 : wr.cell? ⟨blk, k * 7, none⟩ = some (.int .i64 0) := hc 0 (by omega)
      have c1 : wr.cell? ⟨blk, k * 7 + 1, none⟩ = some (.string (ts k)) := hc 1 (by omega)
      have c2 : wr.cell? ⟨blk, k * 7 + 2, none⟩ = some (.string ByteArray.empty) := hc 2 (by omega)
      have c3 : wr.cell? ⟨blk, k * 7 + 3, none⟩ = some (.bool false) := hc 3 (by omega)
      have c4 : wr.cell? ⟨blk, k * 7 + 4, none⟩ = some (.bool false) := hc 4 (by omega)
      have c5 : wr.cell? ⟨blk, k * 7 + 5, none⟩ = some (.string ByteArray.empty) := hc 5 (by omega)
      have c6 : wr.cell? ⟨blk, k * 7 + 6, none⟩ = some (.slice none 0 0) := hc 6 (by omega)
      clear hc htl hat
      go_wp2
      · go_ret
        refine ⟨?_, hbw.alloc hbw.size _⟩
        rw [← HS.out, sf_plain Hat.out (by assumption)]
        rfl
      · go_roundw
        case rel => exact ⟨k + 1, k, by omega, by go_num, rfl, by omega, by omega, by rw [← HS.out, sf_html Hat.out (by assumption) (by assumption) (by assumption)], hbw.alloc hbw.size _⟩
        case measure => simp [intOf]; omega
      · go_roundw
        case rel => exact ⟨k + 1, hh, by omega, by go_num, rfl, by omega, by omega, by rw [← HS.out, sf_html2 Hat.out (by assumption) (by assumption)], hbw.alloc hbw.size _⟩
        case measure => simp [intOf]; omega
      · go_roundw
        case rel => exact ⟨k + 1, hh, by omega, by go_num, rfl, by omega, by omega, by rw [← HS.out, sf_other Hat.out (by assumption) (by assumption)], hbw.alloc hbw.size _⟩
        case measure => simp [intOf]; omega
    · clear htl
      have he := HS.out
      have hkn : tl.length ≤ k := by omega
      rw [sf_end hkn] at he
      have HE : Hid (max hh 0 = shownFrom 0 (-1) tl) := he
      clear he
      go_wp2
      all_goals
        go_ret
        refine ⟨?_, hbw⟩
        rw [← HE.out]
        first | (rw [show max hh 0 = 0 by omega]; rfl) | (rw [show max hh 0 = hh by omega]; rfl)

set_option maxHeartbeats 400000 in
theorem zzShown_none (w : World) :
    Calls Try.prog 21 #[.slice none 0 0] w fun e w' => e = .returned (.int .i64 0) ∧ w' = w := by
  go_enter Try.func21, Try.ntmps21
  go_wp2_with (go_at_call 27; refine (shown_none _).mono ?_; rintro e w' ⟨rfl, rfl⟩)
  go_ret
  exact ⟨rfl, rfl⟩

set_option maxHeartbeats 400000 in
theorem zzShown_some (blk n : Nat) (ts : Nat → ByteArray) (tl : List (List UInt8)) (w : World) (hn : n ≤ 1048576) (hlen : tl.length = n) (htl : ∀ i, i < n → tl[i]? = some (ts i).toList) (hrow : PartsRow w blk n ts) :
    Calls Try.prog 21 #[.slice (some ⟨blk, 0, none⟩) n n] w fun e w' => e = .returned (.int .i64 (shownFrom 0 (-1) tl)) ∧ Below w.heap.size w w' := by
  have H : Hid (Calls Try.prog 27 #[.slice (some ⟨blk, 0, none⟩) n n] w fun e w' => e = .returned (.int .i64 (shownFrom 0 (-1) tl)) ∧ Below w.heap.size w w') := shown_some blk n ts tl w hn hlen htl hrow
  clear hlen htl hrow
  go_enter Try.func21, Try.ntmps21
  go_wp2_with (go_at_call 27; refine H.out.mono ?_; rintro e w' ⟨rfl, hb⟩)
  go_ret
  exact ⟨rfl, hb⟩
end Go.Proofs.Qxb6603932a
