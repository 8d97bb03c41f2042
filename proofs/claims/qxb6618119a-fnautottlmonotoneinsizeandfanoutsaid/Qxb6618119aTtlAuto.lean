import Derived.Test.Qxb6618119aRows
import Derived.WalkKit
import Derived.Test.Qxb6618119aTtlMath
namespace Go.Proofs.Qxb6618119a.Ttl
open Go.RowKit

set_option maxHeartbeats 400000 in
theorem auto_any (f size : Int) (w : World) (hf : 0 ≤ f) (hfm : f ≤ 9223372036854775806) (h1 : -461168601842738790 ≤ size) (h2 : size ≤ 461168601842738790) :
    Calls Try.prog 7 #[.int .i64 f, .int .i64 size] w fun e w' => ∃ t : Nat, e = .returned (.int .i64 t) ∧ Is f (9 * size) t ∧ w' = w := by
  go_enter Try.func7, Try.ntmps7
  go_wp2
  go_loop [6, 7] (fun t r => ∃ k : Nat, 1 ≤ k ∧ k ≤ 8 ∧ t = .int .i64 k ∧ r = .int .i64 (R f k) ∧ R f k ≤ 9223372036854775807 ∧ ∀ s, 1 ≤ s → s < k → half f (9 * size) s = false)
    (fun t _ => 8 - (intOf t).toNat)
  case atStart => exact ⟨1, by omega, by omega, rfl, by simp [R]; omega, by simp [R]; omega, fun s h1 h2 => by omega⟩
  case round =>
    obtain ⟨k, hk1, hk8, rfl, rfl, hr, hno⟩ := hrel
    have hr1 := r_pos f hf k
    have HN : Hid (∀ s, 1 ≤ s → s < k → half f (9 * size) s = false) := hno
    clear hno
    have hd1 := tdiv_bd (a := 9 * size) (r := 100) (M := 4150517416584649110) (by omega) (by omega) (by omega)
    have hd2 := tdiv_bd (r := R f k) (M := 4150517416584649110) hr1 hd1.1 hd1.2
    obtain ⟨hd3, hd4⟩ := hd2
    clear hd1
    by_cases hk : k < 8
    · by_cases hb : ((9 * size).tdiv 100).tdiv (R f k) < f
      · go_wp2
        go_ret
        exact ⟨k, rfl, ⟨hk1, hk8, HN.out, fun _ => brk1 hf hb⟩, rfl⟩
      · obtain ⟨hm0, hm1⟩ := nobrk1 (k := k) (aim := 9 * size) hf (by omega)
        have hm2 := nobrk1_r (k := k) (aim := 9 * size) hf (by omega)
        have hm3 : R f k * f ≤ 41505174165846491 := by omega
        have hm4 : R f k ≤ 41505174165846491 := by omega
        clear hm1 hm2
        by_cases hh : 9 * size ≤ 100 * (R f k + (R f k * f + 1))
        · go_wp2
          go_ret
          exact ⟨k, rfl, ⟨hk1, hk8, HN.out, fun _ => half_of hh⟩, rfl⟩
        · have hb2 : f ≤ 9 * size / 100 / R f k := by
            have e1 : (9 * size).tdiv 100 = 9 * size / 100 := Int.tdiv_eq_ediv_of_nonneg (by omega)
            have e2 : (9 * size / 100).tdiv (R f k) = 9 * size / 100 / R f k := Int.tdiv_eq_ediv_of_nonneg (by omega)
            rw [← e2, ← e1]; omega
          go_wp2
          go_round
          case rel => exact ⟨k + 1, by omega, by omega, by go_num, rfl, by show R f k * f + 1 ≤ _; omega, fun s hs1 hs2 => by
            by_cases e : s = k
            · rw [e]; exact half_no (by show 100 * (R f k + (R f k * f + 1)) < _; omega)
            · exact HN.out s hs1 (by omega)⟩
          case measure => simp [intOf]; omega
    · go_wp2
      go_ret
      exact ⟨k, rfl, ⟨hk1, hk8, HN.out, fun h => absurd h hk⟩, rfl⟩

theorem wrap_top (f : Int) (h1 : 9223372036854775807 ≤ f) (h2 : f ≤ 9223372036854775807) : -9223372036854775808 ≤ wrap64 (1 + f) ∧ wrap64 (1 + f) ≤ -1 := by
  unfold wrap64; omega

theorem tdiv_bd_neg {a r M : Int} (hr : r ≤ -1) (h1 : -M ≤ a) (h2 : a ≤ M) : -M ≤ a.tdiv r ∧ a.tdiv r ≤ M := by
  have e : a.tdiv r = -(a.tdiv (-r)) := by rw [Int.tdiv_neg]; omega
  have := tdiv_bd (a := a) (r := -r) (M := M) (by omega) h1 h2
  omega

set_option maxHeartbeats 400000 in
theorem auto_top (f size : Int) (w : World) (hf : 9223372036854775807 ≤ f) (hfm : f ≤ 9223372036854775807) (h1 : -461168601842738790 ≤ size) (h2 : size ≤ 461168601842738790) :
    Calls Try.prog 7 #[.int .i64 f, .int .i64 size] w fun e w' => ∃ t : Nat, e = .returned (.int .i64 t) ∧ Is f (9 * size) t ∧ w' = w := by
  go_enter Try.func7, Try.ntmps7
  go_wp2
  go_loop [6, 7] (fun t r => ∃ x : Int, t = .int .i64 1 ∧ r = .int .i64 x ∧ -9223372036854775808 ≤ x ∧ x ≤ -1)
    (fun _ _ => 0)
  case atStart => exact ⟨wrap64 (1 + f), rfl, rfl, (wrap_top f hf hfm).1, (wrap_top f hf hfm).2⟩
  case round =>
    obtain ⟨x, rfl, rfl, hx1, hx2⟩ := hrel
    have hd1 := tdiv_bd (a := 9 * size) (r := 100) (M := 4150517416584649110) (by omega) (by omega) (by omega)
    have hd2 := tdiv_bd_neg (r := x) (M := 4150517416584649110) hx2 hd1.1 hd1.2
    obtain ⟨hd3, hd4⟩ := hd2
    clear hd1
    have hb : ((9 * size).tdiv 100).tdiv x < f := by omega
    go_wp2
    go_ret
    refine ⟨1, rfl, ⟨by omega, by omega, fun s h1 h2 => by omega, fun _ => half_of ?_⟩, rfl⟩
    have e1 : R f 1 = f + 1 := by simp [R]
    have e2 := r_pos f (by omega) (1 + 1)
    omega

/-- autoTTL, at every fanout that is not negative -/
theorem auto_all (f size : Int) (w : World) (hf : 0 ≤ f) (hfm : f ≤ 9223372036854775807) (h1 : -461168601842738790 ≤ size) (h2 : size ≤ 461168601842738790) :
    Calls Try.prog 7 #[.int .i64 f, .int .i64 size] w fun e w' => ∃ t : Nat, e = .returned (.int .i64 t) ∧ Is f (9 * size) t ∧ w' = w := by
  by_cases h : f ≤ 9223372036854775806
  · exact auto_any f size w hf h h1 h2
  · exact auto_top f size w (by omega) hfm h1 h2

set_option maxHeartbeats 400000 in
theorem zzauto_all (f size : Int) (w : World) (hf : 0 ≤ f) (hfm : f ≤ 9223372036854775807) (h1 : -461168601842738790 ≤ size) (h2 : size ≤ 461168601842738790) :
    Calls Try.prog 5 #[.int .i64 f, .int .i64 size] w fun e w' => ∃ t : Nat, e = .returned (.int .i64 t) ∧ Is f (9 * size) t ∧ w' = w := by
  go_enter Try.func5, Try.ntmps5
  go_wp2_with (go_at_call 7; refine (auto_all _ _ _ hf hfm h1 h2).mono ?_; rintro e w' ⟨t, rfl, ht, rfl⟩; have HT : Hid (Is f (9 * size) t) := ht; clear ht)
  go_ret
  exact ⟨t, rfl, HT.out, rfl⟩

end Go.Proofs.Qxb6618119a.Ttl
