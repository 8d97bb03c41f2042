import Derived.Test.Qxb6618119aRows
import Derived.WalkKit
import Derived.Test.Qxb6618119aTtlMath
namespace Go.Proofs.Qxb6618119a.Ttl
open Go.RowKit

theorem ret_int {k : IntKind} {a b : Int} (h : a = b) : Ending.returned (.int k a) = .returned (.int k b) := by rw [h]

set_option maxHeartbeats 400000 in
theorem geo_any (f lim : Int) (t : Nat) (w : World) (hf : 0 ≤ f) (hfm : f ≤ 9223372036854775807) (ht : t ≤ 100) (hl : 1 ≤ lim) (hlm : lim ≤ 4000000000000000000) :
    Calls Try.prog 9 #[.int .i64 f, .int .i64 t, .int .i64 lim] w fun e w' => e = .returned (.int .i64 (cap lim (R f t))) ∧ w' = w := by
  go_enter Try.func9, Try.ntmps9
  go_wp2
  go_loop [7, 8, 9] (fun s p i => ∃ (k : Nat) (q : Int), k ≤ t + 1 ∧ i = .int .i64 k ∧ s = .int .i64 (Sm f k) ∧ p = .int .i64 q ∧ 0 ≤ q ∧ q ≤ lim ∧ Sm f k < lim ∧ (q = Pw f k ∨ (q = lim ∧ lim ≤ Pw f k)))
    (fun _ _ i => t + 1 - (intOf i).toNat)
  case atStart => exact ⟨0, 1, by omega, rfl, rfl, rfl, by omega, by omega, by simp [Sm]; omega, Or.inl rfl⟩
  case round =>
    obtain ⟨k, q, hk, rfl, rfl, rfl, hq0, hq, hs, hp⟩ := hrel
    have hs0 := sm_nonneg f hf k
    have HP : Hid (q = Pw f k ∨ (q = lim ∧ lim ≤ Pw f k)) := hp
    clear hp
    by_cases hkt : k ≤ t
    · by_cases hql : lim ≤ q
      · go_wp2
        go_ret
        exact ⟨ret_int (by rw [cap, if_pos (geo_cap hf hkt hql HP.out)]), rfl⟩
      · have HQ : Hid (q = Pw f k) := by rcases HP.out with h | h; exact h; omega
        by_cases hsl : lim ≤ Sm f k + q
        · go_wp2
          go_ret
          exact ⟨ret_int (by rw [cap, if_pos (geo_sum hf hkt (by rw [← HQ.out]; exact hsl))]), rfl⟩
        · by_cases hf1 : 1 ≤ f
          · by_cases ho : lim / f < q
            · go_wp2
              go_round
              case rel => exact ⟨k + 1, lim, by omega, by go_num, by show _ = Value.int .i64 (Sm f k + Pw f k); rw [← HQ.out], rfl, by omega, by omega, by show Sm f k + Pw f k < lim; rw [← HQ.out]; omega, Or.inr ⟨rfl, geo_over hf1 (by rw [← HQ.out]; exact ho)⟩⟩
              case measure => simp [intOf]; omega
            · have hin : q * f ≤ lim := by have h := geo_in (lim := lim) (k := k) hf1 (by rw [← HQ.out]; omega); rw [← HQ.out] at h; exact h
              have hnn : 0 ≤ q * f := Int.mul_nonneg hq0 hf
              go_wp2
              go_round
              case rel => exact ⟨k + 1, q * f, by omega, by go_num, by show _ = Value.int .i64 (Sm f k + Pw f k); rw [← HQ.out], rfl, by omega, by omega, by show Sm f k + Pw f k < lim; rw [← HQ.out]; omega, Or.inl (by show q * f = Pw f k * f; rw [HQ.out])⟩
              case measure => simp [intOf]; omega
          · obtain rfl : f = 0 := by omega
            go_wp2
            go_round
            case rel => exact ⟨k + 1, 0, by omega, by go_num, by show _ = Value.int .i64 (Sm 0 k + Pw 0 k); rw [← HQ.out], by go_num, by omega, by omega, by show Sm 0 k + Pw 0 k < lim; rw [← HQ.out]; omega, Or.inl (by show 0 = Pw 0 k * 0; simp)⟩
            case measure => simp [intOf]; omega
    · have hkk : k = t + 1 := by omega
      have HK : Hid (k = t + 1) := hkk
      clear hkk
      go_wp2
      go_ret
      exact ⟨ret_int (by have e : R f t = Sm f k := by rw [HK.out]; exact r_sm f t
                         rw [cap, e, if_neg (by omega)]), rfl⟩

end Go.Proofs.Qxb6618119a.Ttl
