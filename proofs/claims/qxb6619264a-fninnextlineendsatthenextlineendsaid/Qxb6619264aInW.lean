import Derived.Test.Qxb6619264aRows
import Derived.Test.Qxb6619264aW
namespace Go.Proofs.Qxb6619264a.InW
open Go.RowKit Go.Proofs.Qxb6619264a.W

theorem info54 : (Try.prog.info? 54).map (fun i => (i.zero, i.size, i.bytes)) = some (some (.agg #[.slice none 0 0, .map none, .int .u16 0, .int .u16 0, .bool false]), 5, 40) := by kernel_rfl

set_option maxHeartbeats 400000 in
theorem rows_any (bu bw n cu cw : Nat) (U : Nat → Int) (V : Nat → Bool) (w : World) (hn : n ≤ 65536)
    (hu : ∀ j, j < n → w.cell? ⟨bu, j, none⟩ = some (.int .u16 (U j))) (hv : ∀ j, j < n → w.cell? ⟨bw, j, none⟩ = some (.bool (V j))) (hbu : bu < w.heap.size) (hbw : bw < w.heap.size) :
    Calls Try.prog 24 #[.slice (some ⟨bu, 0, none⟩) n cu, .slice (some ⟨bw, 0, none⟩) n cw] w fun e w' => e = .returned (.slice (some ⟨w.heap.size, 0, none⟩) n n) ∧ Below w.heap.size w w' ∧ w'.heap.size = w.heap.size + 1 ∧
      ∃ cs, Blk w' w.heap.size 54 cs ∧ ∀ i, i < n → cs[i * 5 + 2]? = some (.int .u16 (U i)) ∧ cs[i * 5 + 4]? = some (.bool (V i)) := by
  have HU : Hid (∀ j, j < n → w.cell? ⟨bu, j, none⟩ = some (.int .u16 (U j))) := hu
  have HV : Hid (∀ j, j < n → w.cell? ⟨bw, j, none⟩ = some (.bool (V j))) := hv
  clear hu hv
  go_enter Try.func24, Try.ntmps24
  go_wp2_with (at_make; refine wpList_mk _ rfl _ _ 46 rfl 54 _ 5 40 Try.underlying46 info54 _ _ _ _ n rfl rfl rfl rfl (by omega) (by unfold maxLen; omega) ?_; intro w1 hb1 hbel1 hs1)
  generalize hg : w.heap.size = g at *
  have HB : Hid (Blk w1 g 54 (madeCells (Value.agg #[Value.slice none 0 0, Value.map none, Value.int IntKind.u16 0, Value.int IntKind.u16 0, Value.bool false]).cells (n * 5)).toList) := hb1
  clear hb1
  go_loopw [6] (fun i wr => ∃ (k : Nat) (cs : List Value), k ≤ n ∧ i = .int .i64 k ∧ Below g w wr ∧ wr.heap.size = g + 1 ∧ Blk wr g 54 cs ∧ cs.length = n * 5 ∧ ∀ i, i < k → cs[i * 5 + 2]? = some (.int .u16 (U i)) ∧ cs[i * 5 + 4]? = some (.bool (V i)))
    (fun i _ => n - (intOf i).toNat)
  case atStart => exact ⟨0, _, Nat.zero_le _, rfl, hbel1, hs1, HB.out, by simp [madeCells], fun i hi => absurd hi (Nat.not_lt_zero _)⟩
  case round =>
    obtain ⟨k, cs, hk, rfl, hbel, hsz, hblk, hlen, hcs⟩ := hrel
    by_cases hlt : k < n
    · have hu1 : wr.cell? ⟨bu, k, none⟩ = some (.int .u16 (U k)) := (hbel.cell (p := ⟨bu, k, none⟩) hbu).trans (HU.out k hlt)
      have hv1 : wr.cell? ⟨bw, k, none⟩ = some (.bool (V k)) := (hbel.cell (p := ⟨bw, k, none⟩) hbw).trans (HV.out k hlt)
      have hl2 : k * 5 + 2 < cs.length := by omega
      have hl4 : k * 5 + 4 < cs.length := by omega
      have hc2 : wr.cell? ⟨g, k * 5 + 2, none⟩ = some cs[k * 5 + 2] := by rw [hblk.cell, List.getElem?_eq_getElem hl2]
      have hc4 : wr.cell? ⟨g, k * 5 + 4, none⟩ = some cs[k * 5 + 4] := by rw [hblk.cell, List.getElem?_eq_getElem hl4]
      have hf := hblk.frozen
      have HR : Hid (∀ i, i < k + 1 → ((cs.set (k * 5 + 2) (.int .u16 (U k))).set (k * 5 + 4) (.bool (V k)))[i * 5 + 2]? = some (.int .u16 (U i)) ∧ ((cs.set (k * 5 + 2) (.int .u16 (U k))).set (k * 5 + 4) (.bool (V k)))[i * 5 + 4]? = some (.bool (V i))) := by
        intro i hi
        by_cases e : i = k
        · subst e
          rw [List.getElem?_set_ne (by omega), List.getElem?_set_self hl2, List.getElem?_set_self (by simp; omega)]
          exact ⟨rfl, rfl⟩
        · rw [List.getElem?_set_ne (by omega), List.getElem?_set_ne (by omega), List.getElem?_set_ne (by omega), List.getElem?_set_ne (by omega)]
          exact hcs i (by omega)
      have HB2 : Hid (Blk wr g 54 cs) := hblk
      have HC : Hid (∀ i, i < k → cs[i * 5 + 2]? = some (.int .u16 (U i)) ∧ cs[i * 5 + 4]? = some (.bool (V i))) := hcs
      have HS : Hid (cs.length = n * 5) := hlen
      clear hcs hblk hlen
      go_wp2
      go_roundw
      case rel => exact ⟨k + 1, _, by omega, by go_num, (hbel.setCell (p := ⟨g, _, none⟩) (Nat.le_refl _) _).setCell (p := ⟨g, _, none⟩) (Nat.le_refl _) _, by simp [World.setCell]; exact hsz, (HB2.out.set _ _).set _ _, by simp; exact HS.out, HR.out⟩
      case measure => simp [intOf]; omega
    · have HC : Hid (∀ i, i < k → cs[i * 5 + 2]? = some (.int .u16 (U i)) ∧ cs[i * 5 + 4]? = some (.bool (V i))) := hcs
      clear hcs
      go_wp2
      go_ret
      subst hg
      exact ⟨rfl, hbel, hsz, cs, hblk, fun i hi => HC.out i (by omega)⟩

/-! ### The plain law -/
/-- how many of the first y rows end a line -/
def ends (V : Nat → Bool) : Nat → Nat
  | 0 => 0
  | y + 1 => ends V y + if V y then 0 else 1

theorem ends_le (V : Nat → Bool) (y : Nat) : ends V y ≤ y := by
  induction y with
  | zero => exact Nat.le_refl _
  | succ y ih => simp only [ends]; split <;> omega
theorem ends_mono (V : Nat → Bool) {a b : Nat} (h : a ≤ b) : ends V a ≤ ends V b := by
  induction b with
  | zero => have : a = 0 := by omega
            subst this; exact Nat.le_refl _
  | succ b ih =>
    by_cases e : a = b + 1
    · subst e; exact Nat.le_refl _
    · have := ih (by omega)
      simp only [ends]; omega
theorem ends_lt (V : Nat → Bool) {a b : Nat} (h : a < b) (hv : V a = false) : ends V a + 1 ≤ ends V b := by
  have h1 := ends_mono V (a := a + 1) (b := b) h
  have h2 : ends V (a + 1) = ends V a + 1 := by simp [ends, hv]
  omega

/-- where the end of line ln lies -/
def InAt (V : Nat → Bool) (n : Nat) (ln : Int) (y : Nat) : Prop :=
  y < n ∧ (ends V y : Int) ≤ ln ∧ (y + 1 < n → V y = false ∧ (ends V y : Int) = ln)

theorem next_law {V : Nat → Bool} {n y1 y2 nx : Nat} {ln : Int} (h1 : InAt V n ln y1) (h2 : InAt V n (ln + 1) y2) (hy : y1 + 1 < n)
    (ha : y1 + 1 ≤ nx) (hb : nx < n) (hw : ∀ j, y1 + 1 ≤ j → j < nx → V j = true) (he : nx + 1 < n → V nx = false) : y2 = nx := by
  obtain ⟨a1, a2, a3⟩ := h1
  obtain ⟨b1, b2, b3⟩ := h2
  obtain ⟨c1, c2⟩ := a3 hy
  have hn : ∀ m, y1 + 1 ≤ m → m ≤ nx → (ends V m : Int) = ln + 1 := by
    intro m
    induction m with
    | zero => intro h; omega
    | succ m ih =>
      intro p q
      by_cases e : m = y1
      · subst e; simp [ends, c1]; omega
      · have := ih (by omega) (by omega)
        have hm := hw m (by omega) (by omega)
        simp [ends, hm]; omega
  have hnx := hn nx ha (Nat.le_refl _)
  by_cases e : y2 = nx
  · exact e
  · exfalso
    by_cases l : y2 < nx
    · obtain ⟨d1, d2⟩ := b3 (by omega)
      have := ends_lt V l d1
      omega
    · have l2 : nx < y2 := by omega
      have := ends_lt V l2 (he (by omega))
      omega

theorem last_law {V : Nat → Bool} {n y1 y2 : Nat} {ln : Int} (h1 : InAt V n ln y1) (h2 : InAt V n (ln + 1) y2) (hy : ¬ y1 + 1 < n) : y2 = y1 := by
  obtain ⟨a1, a2, a3⟩ := h1
  obtain ⟨b1, b2, b3⟩ := h2
  by_cases l : y2 + 1 < n
  · obtain ⟨d1, d2⟩ := b3 l
    have := ends_mono V (a := y2) (b := y1) (by omega)
    omega
  · omega

set_option maxHeartbeats 400000 in
theorem in_any (g n c : Nat) (U : Nat → Int) (V : Nat → Bool) (ln : Int) (w : World) (hn1 : 1 ≤ n) (hn : n ≤ 65536) (hln : 0 ≤ ln) (hlm : ln ≤ 9223372036854775807)
    (hgs : g < w.heap.size) (hcu : ∀ i, i < n → w.cell? ⟨g, i * 5 + 2, none⟩ = some (.int .u16 (U i))) (hcv : ∀ i, i < n → w.cell? ⟨g, i * 5 + 4, none⟩ = some (.bool (V i)))
    (hU : ∀ i, i < n → 0 ≤ U i ∧ U i ≤ 65535) :
    Calls Try.prog 29 #[.agg #[.int .i64 ln, .int .i64 (-1)], .slice (some ⟨g, 0, none⟩) n c] w fun e w' => ∃ y : Nat, e = .returned (.tuple #[.int .i64 (U y), .int .i64 y]) ∧ InAt V n ln y ∧ Below w.heap.size w w' := by
  have HU : Hid (∀ i, i < n → w.cell? ⟨g, i * 5 + 2, none⟩ = some (.int .u16 (U i))) := hcu
  have HV : Hid (∀ i, i < n → w.cell? ⟨g, i * 5 + 4, none⟩ = some (.bool (V i))) := hcv
  clear hcu hcv
  have hel : ∀ k, (ends V k : Int) ≤ k := fun k => by have := ends_le V k; omega
  have HE : Hid (∀ k, (ends V k : Int) ≤ k) := hel
  clear hel
  go_enter Try.func29, Try.ntmps29
  go_wp2
  go_loop [5, 6] (fun y c => ∃ k : Nat, k < n ∧ y = .int .i64 k ∧ c = .int .i64 (ends V k) ∧ (ends V k : Int) ≤ ln) (fun y _ => n - (intOf y).toNat)
  case atStart => exact ⟨0, hn1, rfl, rfl, hln⟩
  case round =>
    obtain ⟨k, hk, rfl, rfl, hle⟩ := hrel
    have hek := HE.out k
    by_cases hc : (ends V k : Int) < ln ∧ k + 1 < n
    · obtain ⟨hc1, hc2⟩ := hc
      cases hv : V k with
      | true =>
        have hv1 : w.cell? ⟨g, k * 5 + 4, none⟩ = some (.bool true) := by rw [← hv]; exact HV.out k hk
        have HR : Hid (ends V (k + 1) = ends V k) := by simp [Hid, ends, hv]
        clear hv
        go_wp2
        go_round
        case rel => exact ⟨k + 1, hc2, by go_num, by rw [HR.out], by rw [HR.out]; exact hle⟩
        case measure => simp [intOf]; omega
      | false =>
        have hv1 : w.cell? ⟨g, k * 5 + 4, none⟩ = some (.bool false) := by rw [← hv]; exact HV.out k hk
        have HR : Hid (ends V (k + 1) = ends V k + 1) := by simp [Hid, ends, hv]
        clear hv
        go_wp2
        go_round
        case rel => exact ⟨k + 1, hc2, by go_num, by rw [HR.out]; go_num, by rw [HR.out]; omega⟩
        case measure => simp [intOf]; omega
    · have hx : k + 1 < n → (ends V k : Int) = ln := fun h => by omega
      have HX : Hid (k + 1 < n → (ends V k : Int) = ln) := hx
      clear hx
      by_cases hc1 : (ends V k : Int) < ln
      all_goals
        have hc2 : (ends V k : Int) < ln → ¬ k + 1 < n := fun h h' => hc ⟨h, h'⟩
        have hc3 : (ends V k : Int) < ln → (n : Int) - 1 ≤ (k : Int) := fun h => by have := hc2 h; omega
        clear hc hc2
        try have hc4 := hc3 hc1
        clear hc3
        go_wp2
        go_loop [5] (fun y => ∃ k : Nat, k < n ∧ y = .int .i64 k ∧ (ends V k : Int) ≤ ln ∧ (k + 1 < n → (ends V k : Int) = ln)) (fun y => n - (intOf y).toNat)
        case atStart => exact ⟨k, hk, rfl, hle, HX.out⟩
        case round =>
          obtain ⟨y, hy, rfl, hyl, hye⟩ := hrel
          have HY : Hid (y + 1 < n → (ends V y : Int) = ln) := hye
          clear hye hc1 hek hk hle
          cases hv : V y with
          | false =>
            have hv1 : w.cell? ⟨g, y * 5 + 4, none⟩ = some (.bool false) := by rw [← hv]; exact HV.out y hy
            have hu1 : w.cell? ⟨g, y * 5 + 2, none⟩ = some (.int .u16 (U y)) := HU.out y hy
            have HI : Hid (InAt V n ln y) := ⟨hy, hyl, fun h => ⟨hv, HY.out h⟩⟩
            obtain ⟨hU1, hU2⟩ := hU y hy
            clear hv
            go_wp2
            go_ret2
            exact ⟨y, rfl, HI.out, (Below.refl _ _).alloc (Nat.le_refl _) _⟩
          | true =>
            have hv1 : w.cell? ⟨g, y * 5 + 4, none⟩ = some (.bool true) := by rw [← hv]; exact HV.out y hy
            by_cases hl : y + 1 < n
            · have HR : Hid (ends V (y + 1) = ends V y) := by simp [Hid, ends, hv]
              clear hv
              go_wp2
              go_round
              case rel => exact ⟨y + 1, hl, by go_num, by rw [HR.out]; exact hyl, fun _ => by rw [HR.out]; exact HY.out hl⟩
              case measure => simp [intOf]; omega
            · have hu1 : w.cell? ⟨g, y * 5 + 2, none⟩ = some (.int .u16 (U y)) := HU.out y hy
              have HI : Hid (InAt V n ln y) := ⟨hy, hyl, fun h => absurd h hl⟩
              obtain ⟨hU1, hU2⟩ := hU y hy
              clear hv
              go_wp2
              go_ret2
              exact ⟨y, rfl, HI.out, (Below.refl _ _).alloc (Nat.le_refl _) _⟩

end Go.Proofs.Qxb6619264a.InW
