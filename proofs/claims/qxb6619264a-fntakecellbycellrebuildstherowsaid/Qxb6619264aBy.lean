import Derived.Test.Qxb6619264aCl
namespace Go.Proofs.Qxb6619264a.Cl
open Go.RowKit Go.Proofs.Qxb6619264a.W

/-- it answers a bool and turns nothing -/
def AnyB (e : Ending) (w w' : World) : Prop := ∃ b : Bool, e = .returned (.bool b) ∧ w' = w

set_option maxHeartbeats 1000000 in
theorem bytesM (a0 a1 a : Option Addr) (n0 c0 n1 c1 n c : Nat) (A : Nat → Option Addr) (L Cp : Nat → Nat) (us sz : Int) (wp : Bool) (q1 q2 q3 q4 : Int) (w : World) (h0 : n0 ≤ maxLen) (h1 : n1 ≤ maxLen) (hn : n ≤ maxLen)
    (hin : In w a n (fun i => .slice (A i) (L i) (Cp i))) (hL : ∀ i, i < n → L i ≤ maxLen) :
    Calls Try.prog 6 #[.slice a0 n0 c0, .slice a1 n1 c1, .slice a n c, .int .u16 us, .int .u16 sz, .bool wp, .int .i64 q1, .int .i64 q2, .int .i64 q3, .int .i64 q4] w fun e w' => AnyB e w w' := by
  unfold maxLen at h0 h1 hn
  have HL : Hid (∀ i, i < n → L i ≤ maxLen) := hL
  have HI : Hid (In w a n (fun i => .slice (A i) (L i) (Cp i))) := hin
  clear hin hL
  go_enter Try.func6, Try.ntmps6
  go_wp2
  all_goals first | (go_ret; exact ⟨_, rfl, rfl⟩) | skip
  rcases HI.out with hz | ⟨b, o, rfl, hb, hc⟩
  · subst hz
    go_loop [21, 22] (fun t i => ∃ r : Int, t = .int .i64 r ∧ i = .int .i64 0) (fun _ _ => 0)
    case atStart => exact ⟨_, rfl, rfl⟩
    case round =>
      obtain ⟨r, rfl, rfl⟩ := hrel
      go_wp2
      go_ret
      exact ⟨_, rfl, rfl⟩
  · have HC : Hid (∀ i, i < n → w.cell? ⟨b, o + i, none⟩ = some (.slice (A i) (L i) (Cp i))) := hc
    clear hc
    go_loop [21, 22] (fun t i => ∃ (k : Nat) (r : Int), k ≤ n ∧ 0 ≤ r ∧ r ≤ 1048576 ∧ t = .int .i64 r ∧ i = .int .i64 k) (fun _ i => n - (intOf i).toNat)
    case atStart => exact ⟨0, _, Nat.zero_le _, by omega, by omega, rfl, rfl⟩
    case round =>
      obtain ⟨k, r, hk, hr0, hr1, rfl, rfl⟩ := hrel
      by_cases hlt : k < n
      · have hc : w.cell? ⟨b, o + k, none⟩ = some (.slice (A k) (L k) (Cp k)) := HC.out k hlt
        have hm := HL.out k hlt
        unfold maxLen at hm
        by_cases hb1 : 1048576 < (L k : Int)
        · go_wp2
          go_ret
          exact ⟨_, rfl, rfl⟩
        · by_cases hb2 : 1048576 < r + (L k : Int)
          · go_wp2
            go_ret
            exact ⟨_, rfl, rfl⟩
          · go_wp2
            go_round
            case rel => exact ⟨k + 1, r + (L k : Int), hlt, by omega, by omega, rfl, by go_num⟩
            case measure => simp [intOf]; omega
      · go_wp2
        go_ret
        exact ⟨_, rfl, rfl⟩

set_option maxHeartbeats 1000000 in
theorem bytesT (a0 a1 a : Option Addr) (n0 c0 n1 c1 n c : Nat) (A : Nat → Option Addr) (L Cp : Nat → Nat) (q1 : Int) (w : World) (h0 : n0 ≤ maxLen) (h1 : n1 ≤ maxLen) (hn : n ≤ maxLen)
    (hin : In w a n (fun i => .slice (A i) (L i) (Cp i))) (hL : ∀ i, i < n → L i ≤ maxLen) :
    Calls Try.prog 26 #[.slice a0 n0 c0, .slice a1 n1 c1, .slice a n c, .int .i64 q1] w fun e w' => AnyB e w w' := by
  unfold maxLen at h0 h1 hn
  have HL : Hid (∀ i, i < n → L i ≤ maxLen) := hL
  have HI : Hid (In w a n (fun i => .slice (A i) (L i) (Cp i))) := hin
  clear hin hL
  go_enter Try.func26, Try.ntmps26
  go_wp2
  all_goals first | (go_ret; exact ⟨_, rfl, rfl⟩) | skip
  rcases HI.out with hz | ⟨b, o, rfl, hb, hc⟩
  · subst hz
    go_loop [9, 10] (fun t i => ∃ r : Int, t = .int .i64 r ∧ i = .int .i64 0) (fun _ _ => 0)
    case atStart => exact ⟨_, rfl, rfl⟩
    case round =>
      obtain ⟨r, rfl, rfl⟩ := hrel
      go_wp2
      go_ret
      exact ⟨_, rfl, rfl⟩
  · have HC : Hid (∀ i, i < n → w.cell? ⟨b, o + i, none⟩ = some (.slice (A i) (L i) (Cp i))) := hc
    clear hc
    go_loop [9, 10] (fun t i => ∃ (k : Nat) (r : Int), k ≤ n ∧ 0 ≤ r ∧ r ≤ 1048576 ∧ t = .int .i64 r ∧ i = .int .i64 k) (fun _ i => n - (intOf i).toNat)
    case atStart => exact ⟨0, _, Nat.zero_le _, by omega, by omega, rfl, rfl⟩
    case round =>
      obtain ⟨k, r, hk, hr0, hr1, rfl, rfl⟩ := hrel
      by_cases hlt : k < n
      · have hc : w.cell? ⟨b, o + k, none⟩ = some (.slice (A k) (L k) (Cp k)) := HC.out k hlt
        have hm := HL.out k hlt
        unfold maxLen at hm
        by_cases hb1 : 1048576 < (L k : Int)
        · go_wp2
          go_ret
          exact ⟨_, rfl, rfl⟩
        · by_cases hb2 : 1048576 < r + (L k : Int)
          · go_wp2
            go_ret
            exact ⟨_, rfl, rfl⟩
          · go_wp2
            go_round
            case rel => exact ⟨k + 1, r + (L k : Int), hlt, by omega, by omega, rfl, by go_num⟩
            case measure => simp [intOf]; omega
      · go_wp2
        go_ret
        exact ⟨_, rfl, rfl⟩

end Go.Proofs.Qxb6619264a.Cl
