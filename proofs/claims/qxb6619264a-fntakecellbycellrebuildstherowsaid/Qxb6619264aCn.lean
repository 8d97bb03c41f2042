import Derived.Test.Qxb6619264aCl
import Derived.Deep.QuietTactic
import Derived.BigQuiet
namespace Go.Proofs.Qxb6619264a.Cl
open Go.RowKit Go.Proofs.Qxb6619264a.W

/-- zzLineBytes: it only reads; a small answer tells that every row is short -/
def Short (n : Nat) (L : Nat → Nat) (r : Int) : Prop := r ≤ 1048576 → ∀ i, i < n → L i ≤ 1048576

set_option maxHeartbeats 400000 in
theorem lineBytes (a0 a1 a : Option Addr) (n0 c0 n1 c1 n c : Nat) (A : Nat → Option Addr) (L Cp : Nat → Nat) (w : World) (h0 : n0 ≤ 65536) (h1 : n1 ≤ 65536) (hn : n ≤ 65536)
    (hin : In w a n (fun i => .slice (A i) (L i) (Cp i))) (hL : ∀ i, i < n → L i ≤ maxLen) :
    Calls Try.prog 7 #[.slice a0 n0 c0, .slice a1 n1 c1, .slice a n c] w fun e w' => ∃ r : Int, e = .returned (.int .i64 r) ∧ w' = w ∧ Short n L r := by
  have HL : Hid (∀ i, i < n → L i ≤ maxLen) := hL
  have HI : Hid (In w a n (fun i => .slice (A i) (L i) (Cp i))) := hin
  clear hin hL
  by_cases hbig : 1048576 < 4 * (n0 : Int) + 8 * (n1 : Int) + 8 * (n : Int)
  · go_enter Try.func7, Try.ntmps7
    go_wp2
    go_ret
    exact ⟨_, rfl, rfl, fun h => absurd h (by decide)⟩
  · rcases HI.out with hz | ⟨b, o, rfl, hb, hc⟩
    · subst hz
      go_enter Try.func7, Try.ntmps7
      go_wp2
      go_loop [7, 8] (fun t i => ∃ r : Int, t = .int .i64 r ∧ i = .int .i64 0) (fun _ _ => 0)
      case atStart => exact ⟨_, rfl, rfl⟩
      case round =>
        obtain ⟨r, rfl, rfl⟩ := hrel
        go_wp2
        go_ret
        exact ⟨_, rfl, rfl, fun _ i hi => absurd hi (Nat.not_lt_zero _)⟩
    · have HC : Hid (∀ i, i < n → w.cell? ⟨b, o + i, none⟩ = some (.slice (A i) (L i) (Cp i))) := hc
      clear hc
      go_enter Try.func7, Try.ntmps7
      go_wp2
      go_loop [7, 8] (fun t i => ∃ (k : Nat) (r : Int), k ≤ n ∧ 0 ≤ r ∧ r ≤ 1048576 ∧ t = .int .i64 r ∧ i = .int .i64 k ∧ ∀ i, i < k → L i ≤ 1048576) (fun _ i => n - (intOf i).toNat)
      case atStart => exact ⟨0, _, Nat.zero_le _, by omega, by omega, rfl, rfl, fun i hi => absurd hi (Nat.not_lt_zero _)⟩
      case round =>
        obtain ⟨k, r, hk, hr0, hr1, rfl, rfl, hall⟩ := hrel
        have HA : Hid (∀ i, i < k → L i ≤ 1048576) := hall
        clear hall
        by_cases hlt : k < n
        · have hc : w.cell? ⟨b, o + k, none⟩ = some (.slice (A k) (L k) (Cp k)) := HC.out k hlt
          have hm := HL.out k hlt
          unfold maxLen at hm
          by_cases hb1 : 1048576 < (L k : Int)
          · go_wp2
            go_ret
            exact ⟨_, rfl, rfl, fun h => absurd h (by decide)⟩
          · by_cases hb2 : 1048576 < r + 4 * (L k : Int)
            · go_wp2
              go_ret
              exact ⟨_, rfl, rfl, fun h => absurd h (by decide)⟩
            · go_wp2
              go_round
              case rel => exact ⟨k + 1, r + 4 * (L k : Int), hlt, by omega, by omega, rfl, by go_num, fun i hi => by
                by_cases e : i = k
                · subst e; omega
                · exact HA.out i (by omega)⟩
              case measure => simp [intOf]; omega
        · go_wp2
          go_ret
          exact ⟨_, rfl, rfl, fun _ i hi => HA.out i (by omega)⟩

/-! ### zzReserve -/
/-- the room a row has after it is asked for need cells -/
def rsv (size need cols : Int) : Int :=
  if need ≤ size then size else if need < cols / 4 then cols / 4 else if need < cols / 2 then cols / 2 else if need < cols then cols else need

theorem rsv_bd {size need cols : Int} (h0 : 0 ≤ size) (h1 : size ≤ 65535) (h2 : 0 ≤ need) (h3 : need ≤ 65535) (h4 : cols ≤ 65535) : 0 ≤ rsv size need cols ∧ rsv size need cols ≤ 65535 := by
  unfold rsv; split; omega; split; omega; split; omega; split <;> omega

theorem ret_int {k : IntKind} {a b : Int} (h : a = b) : Ending.returned (.int k a) = .returned (.int k b) := by rw [h]

theorem tdiv_neg_le {c d : Int} (hc : c < 0) (hd : 0 < d) : c.tdiv d ≤ 0 ∧ c ≤ c.tdiv d := by
  have e : c.tdiv d = -((-c).tdiv d) := by rw [Int.neg_tdiv]; omega
  have e2 : (-c).tdiv d = (-c) / d := Int.tdiv_eq_ediv_of_nonneg (by omega)
  have h3 := Int.ediv_le_self (a := -c) d (by omega)
  have h4 := Int.ediv_nonneg (a := -c) (b := d) (by omega) (by omega)
  omega

set_option maxHeartbeats 1000000 in
theorem reserve (size need cols : Int) (w : World) (h0 : 0 ≤ size) (h1 : size ≤ 65535) (h2 : 1 ≤ need) (h3 : need ≤ 65535) (h4 : cols ≤ 65535) (h5 : -9223372036854775808 ≤ cols) :
    Calls Try.prog 14 #[.int .u16 size, .int .i64 need, .int .i64 cols] w fun e w' => e = .returned (.int .u16 (rsv size need cols)) ∧ w' = w := by
  by_cases c1 : need ≤ size
  · have HR : Hid (rsv size need cols = size) := by unfold Hid rsv; rw [if_pos c1]
    go_enter Try.func14, Try.ntmps14
    go_wp2
    go_ret
    exact ⟨ret_int HR.out.symm, rfl⟩
  · by_cases cn : cols < 0
    · have HR : Hid (rsv size need cols = need) := by unfold Hid rsv; rw [if_neg c1, if_neg (by omega), if_neg (by omega), if_neg (by omega)]
      obtain ⟨t1, t2⟩ := tdiv_neg_le (d := 4) cn (by omega)
      obtain ⟨t3, t4⟩ := tdiv_neg_le (d := 2) cn (by omega)
      go_enter Try.func14, Try.ntmps14
      go_wp2
      go_ret
      exact ⟨ret_int HR.out.symm, rfl⟩
    · by_cases c2 : need < cols / 4
      · have HR : Hid (rsv size need cols = cols / 4) := by unfold Hid rsv; rw [if_neg c1, if_pos c2]
        go_enter Try.func14, Try.ntmps14
        go_wp2
        go_ret
        exact ⟨ret_int HR.out.symm, rfl⟩
      · by_cases c3 : need < cols / 2
        · have HR : Hid (rsv size need cols = cols / 2) := by unfold Hid rsv; rw [if_neg c1, if_neg c2, if_pos c3]
          go_enter Try.func14, Try.ntmps14
          go_wp2
          go_ret
          exact ⟨ret_int HR.out.symm, rfl⟩
        · by_cases c4 : need < cols
          · have HR : Hid (rsv size need cols = cols) := by unfold Hid rsv; rw [if_neg c1, if_neg c2, if_neg c3, if_pos c4]
            go_enter Try.func14, Try.ntmps14
            go_wp2
            go_ret
            exact ⟨ret_int HR.out.symm, rfl⟩
          · have HR : Hid (rsv size need cols = need) := by unfold Hid rsv; rw [if_neg c1, if_neg c2, if_neg c3, if_neg c4]
            go_enter Try.func14, Try.ntmps14
            go_wp2
            go_ret
            exact ⟨ret_int HR.out.symm, rfl⟩

/-! ### zzLastIndex -/
/-- the last index of k among the first n, or -1 -/
def lastIx (K : Nat → Int) (k : Int) : Nat → Int
  | 0 => -1
  | n + 1 => if K n = k then (n : Int) else lastIx K k n

set_option maxHeartbeats 400000 in
theorem lastIndex (g n c : Nat) (K : Nat → Int) (k : Int) (w : World) (hn : n ≤ 65536) (hc : ∀ i, i < n → w.cell? ⟨g, i, none⟩ = some (.int .i64 (K i))) :
    Calls Try.prog 19 #[.slice (some ⟨g, 0, none⟩) n c, .int .i64 k] w fun e w' => e = .returned (.int .i64 (lastIx K k n)) ∧ w' = w := by
  have HC : Hid (∀ i, i < n → w.cell? ⟨g, i, none⟩ = some (.int .i64 (K i))) := hc
  clear hc
  go_enter Try.func19, Try.ntmps19
  go_wp2
  go_loop [5] (fun i => ∃ m : Nat, m ≤ n ∧ i = .int .i64 ((m : Int) - 1) ∧ lastIx K k n = lastIx K k m) (fun i => (intOf i + 1).toNat)
  case atStart => exact ⟨n, Nat.le_refl _, rfl, rfl⟩
  case round =>
    obtain ⟨m, hm, rfl, he⟩ := hrel
    have HE : Hid (lastIx K k n = lastIx K k m) := he
    clear he
    cases m with
    | zero =>
      go_wp2
      go_ret
      exact ⟨ret_int (by rw [HE.out]; rfl), rfl⟩
    | succ m =>
      have hcell : w.cell? ⟨g, m, none⟩ = some (.int .i64 (K m)) := HC.out m (by omega)
      have e1 : (((m + 1 : Nat) : Int) - 1) = (m : Int) := by omega
      rw [e1]
      by_cases hk : K m = k
      · have hk2 : (K m == k) = true := by simp [hk]
        have HR : Hid (lastIx K k (m + 1) = m) := by simp [Hid, lastIx, hk]
        clear hk
        go_wp2
        go_ret
        exact ⟨ret_int (by rw [HE.out, HR.out]), rfl⟩
      · have hk2 : (K m == k) = false := by simp [hk]
        have HR : Hid (lastIx K k (m + 1) = lastIx K k m) := by simp [Hid, lastIx, hk]
        clear hk
        go_wp2
        go_round
        case rel => exact ⟨m, by omega, by go_num, by rw [HE.out, HR.out]⟩
        case measure => simp [intOf]

end Go.Proofs.Qxb6619264a.Cl
