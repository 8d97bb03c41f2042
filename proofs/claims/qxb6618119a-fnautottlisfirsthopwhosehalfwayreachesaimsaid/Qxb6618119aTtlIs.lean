import Derived.Test.Qxb6618119aTtlGeo
import Derived.Test.Qxb6618119aTtlAuto
namespace Go.Proofs.Qxb6618119a.Ttl
open Go.RowKit

theorem ret_bool {a b : Bool} (h : a = b) : Ending.returned (.bool a) = .returned (.bool b) := by rw [h]

theorem cap_bd {lim n : Int} (hl : 1 ≤ lim) (hn : 1 ≤ n) : 1 ≤ cap lim n ∧ cap lim n ≤ lim := by
  unfold cap; split <;> omega

set_option maxHeartbeats 400000 in
theorem half_any (f size : Int) (t : Nat) (w : World) (hf : 0 ≤ f) (hfm : f ≤ 9223372036854775807) (h1 : -461168601842738790 ≤ size) (h2 : size ≤ 461168601842738790) (ht : t ≤ 99) :
    Calls Try.prog 8 #[.int .i64 f, .int .i64 size, .int .i64 t] w fun e w' => e = .returned (.bool (half f (9 * size) t)) ∧ w' = w := by
  by_cases hs : 9 * size ≤ 0
  · have HH : Hid (half f (9 * size) t = true) := half_nonpos hf hs t
    go_enter Try.func8, Try.ntmps8
    go_wp2
    go_ret
    exact ⟨ret_bool (by rw [HH.out]), rfl⟩
  · have HC := half_cap (f := f) (aim := 9 * size) hf (by omega) t
    have HH : Hid (decide (9 * size ≤ 100 * (cap (9 * size / 100 + 1) (R f t) + cap (9 * size / 100 + 1) (R f (t + 1)))) = half f (9 * size) t) := HC
    clear HC
    have hb1 := cap_bd (lim := 9 * size / 100 + 1) (n := R f t) (by omega) (r_pos f hf t)
    have hb2 := cap_bd (lim := 9 * size / 100 + 1) (n := R f (t + 1)) (by omega) (r_pos f hf (t + 1))
    obtain ⟨b1, b2⟩ := hb1
    obtain ⟨b3, b4⟩ := hb2
    go_enter Try.func8, Try.ntmps8
    go_wp2_with fail
    refine (geo_any f (9 * size / 100 + 1) t _ hf hfm (by omega) (by omega) (by omega)).mono ?_
    rintro e w' ⟨rfl, rfl⟩
    go_wp2_with fail
    rw [show ((t : Int) + 1) = ((t + 1 : Nat) : Int) from by omega]
    refine (geo_any f (9 * size / 100 + 1) (t + 1) _ hf hfm (by omega) (by omega) (by omega)).mono ?_
    rintro e w' ⟨rfl, rfl⟩
    go_wp2
    go_ret
    exact ⟨ret_bool HH.out, rfl⟩

set_option maxHeartbeats 400000 in
theorem is_any (f size : Int) (t : Nat) (w : World) (hf : 0 ≤ f) (hfm : f ≤ 9223372036854775807) (h1 : -461168601842738790 ≤ size) (h2 : size ≤ 461168601842738790) (ht : Is f (9 * size) t) :
    Calls Try.prog 6 #[.int .i64 f, .int .i64 size, .int .i64 t] w fun e w' => e = .returned (.bool true) ∧ w' = w := by
  obtain ⟨t1, t8, hno, hyes⟩ := ht
  have HN : Hid (∀ s, 1 ≤ s → s < t → half f (9 * size) s = false) := hno
  have HY : Hid (t < 8 → half f (9 * size) t = true) := hyes
  clear hno hyes
  go_enter Try.func6, Try.ntmps6
  go_wp2
  go_loop [7] (fun i => ∃ k : Nat, 1 ≤ k ∧ k ≤ t ∧ i = .int .i64 k) (fun i => t - (intOf i).toNat)
  case atStart => exact ⟨1, by omega, by omega, rfl⟩
  case round =>
    obtain ⟨k, hk1, hk2, rfl⟩ := hrel
    by_cases hk : k < t
    · have hn := HN.out k hk1 hk
      go_wp2_with (go_at_call 8; refine (half_any f size k _ hf hfm h1 h2 (by omega)).mono ?_; rintro e w' ⟨rfl, rfl⟩)
      go_round
      case rel => exact ⟨k + 1, by omega, by omega, by go_num⟩
      case measure => simp [intOf]; omega
    · by_cases h8 : t < 8
      · have hy := HY.out h8
        go_wp2_with (go_at_call 8; refine (half_any f size t _ hf hfm h1 h2 (by omega)).mono ?_; rintro e w' ⟨rfl, rfl⟩)
        go_ret
        exact ⟨rfl, rfl⟩
      · go_wp2_with fail
        go_ret
        exact ⟨rfl, rfl⟩

end Go.Proofs.Qxb6618119a.Ttl
