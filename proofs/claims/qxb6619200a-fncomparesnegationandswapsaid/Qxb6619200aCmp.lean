import Derived.Test.Qxb6619200aRows
import Derived.WalkKit
namespace Go.Proofs.Qxb6619200a.Cmp
open Go.RowKit

theorem ret_bool {a b : Bool} (h : a = b) : Ending.returned (.bool a) = .returned (.bool b) := by rw [h]
theorem ret_int {k : IntKind} {a b : Int} (h : a = b) : Ending.returned (.int k a) = .returned (.int k b) := by rw [h]

def cb (op c : Int) : Bool :=
  if op = 4 then (c == 0) else if op = 5 then (c != 0) else if op = 6 then decide (c < 0) else if op = 7 then decide (c ≤ 0) else if op = 8 then decide (0 < c) else decide (0 ≤ c)
def neg (op : Int) : Int :=
  if op = 4 then 5 else if op = 5 then 4 else if op = 6 then 9 else if op = 9 then 6 else if op = 7 then 8 else 7
def swp (op : Int) : Int :=
  if op = 6 then 8 else if op = 8 then 6 else if op = 7 then 9 else if op = 9 then 7 else op
def rev (c : Int) : Int := if c = -9223372036854775808 then 9223372036854775807 else -c

theorem eqd (c : Int) : (c == 0) = decide (c = 0) := by rw [Bool.eq_iff_iff]; simp
theorem ned (c : Int) : (c != 0) = decide (c ≠ 0) := by rw [Bool.eq_iff_iff]; simp
theorem cb4 (c : Int) : cb 4 c = decide (c = 0) := eqd c
theorem cb5 (c : Int) : cb 5 c = decide (c ≠ 0) := ned c
theorem cb6 (c : Int) : cb 6 c = decide (c < 0) := rfl
theorem cb7 (c : Int) : cb 7 c = decide (c ≤ 0) := rfl
theorem cb8 (c : Int) : cb 8 c = decide (0 < c) := rfl
theorem cb9 (c : Int) : cb 9 c = decide (0 ≤ c) := rfl

theorem cases6 {op : Int} (h1 : 4 ≤ op) (h2 : op ≤ 9) : op = 4 ∨ op = 5 ∨ op = 6 ∨ op = 7 ∨ op = 8 ∨ op = 9 := by omega

theorem neg_in {op : Int} (h1 : 4 ≤ op) (h2 : op ≤ 9) : 4 ≤ neg op ∧ neg op ≤ 9 := by
  rcases cases6 h1 h2 with rfl | rfl | rfl | rfl | rfl | rfl <;> simp [neg]
theorem swp_in {op : Int} (h1 : 4 ≤ op) (h2 : op ≤ 9) : 4 ≤ swp op ∧ swp op ≤ 9 := by
  rcases cases6 h1 h2 with rfl | rfl | rfl | rfl | rfl | rfl <;> simp [swp]
set_option linter.unusedSimpArgs false in
theorem neg_law {op : Int} (c : Int) (h1 : 4 ≤ op) (h2 : op ≤ 9) : (cb op c == cb (neg op) c) = false := by
  rcases cases6 h1 h2 with rfl | rfl | rfl | rfl | rfl | rfl <;> simp [neg, cb4, cb5, cb6, cb7, cb8, cb9] <;> omega
set_option linter.unusedSimpArgs false in
theorem swp_law {op : Int} (c : Int) (h1 : 4 ≤ op) (h2 : op ≤ 9) : (cb op c == cb (swp op) (rev c)) = true := by
  have hr : (c < 0 ∧ 0 < rev c) ∨ (c = 0 ∧ rev c = 0) ∨ (0 < c ∧ rev c < 0) := by unfold rev; split <;> omega
  rcases cases6 h1 h2 with rfl | rfl | rfl | rfl | rfl | rfl <;> simp [swp, cb4, cb5, cb6, cb7, cb8, cb9] <;> omega
theorem less_law (c : Int) : (cb 6 c == decide (c < 0)) = true := by simp [cb]

set_option maxHeartbeats 1000000 in
theorem cmp_any (op c : Int) (w : World) (h1 : 4 ≤ op) (h2 : op ≤ 9) :
    Calls Try.prog 12 #[.int .u8 op, .int .i64 c] w fun e w' => e = .returned (.bool (cb op c)) ∧ w' = w := by
  rcases cases6 h1 h2 with rfl | rfl | rfl | rfl | rfl | rfl
  all_goals
    clear h1 h2
    go_enter Try.func12, Try.ntmps12
    go_wp2
    go_ret
    exact ⟨ret_bool (by simp [cb]), rfl⟩

set_option maxHeartbeats 1000000 in
theorem zzcmp_any (op c : Int) (w : World) (h1 : 4 ≤ op) (h2 : op ≤ 9) :
    Calls Try.prog 8 #[.int .u8 op, .int .i64 c] w fun e w' => e = .returned (.bool (cb op c)) ∧ w' = w := by
  go_enter Try.func8, Try.ntmps8
  go_wp2_with (go_at_call 12; refine (cmp_any _ _ _ h1 h2).mono ?_; rintro e w' ⟨rfl, rfl⟩)
  go_ret
  exact ⟨rfl, rfl⟩

set_option maxHeartbeats 1000000 in
theorem neg_any (op : Int) (w : World) (h1 : 4 ≤ op) (h2 : op ≤ 9) :
    Calls Try.prog 9 #[.int .u8 op] w fun e w' => e = .returned (.int .u8 (neg op)) ∧ w' = w := by
  rcases cases6 h1 h2 with rfl | rfl | rfl | rfl | rfl | rfl
  all_goals
    clear h1 h2
    go_enter Try.func9, Try.ntmps9
    go_wp2
    go_ret
    exact ⟨ret_int (by simp [neg]), rfl⟩

set_option maxHeartbeats 1000000 in
theorem swp_any (op : Int) (w : World) (h1 : 4 ≤ op) (h2 : op ≤ 9) :
    Calls Try.prog 10 #[.int .u8 op] w fun e w' => e = .returned (.int .u8 (swp op)) ∧ w' = w := by
  rcases cases6 h1 h2 with rfl | rfl | rfl | rfl | rfl | rfl
  all_goals
    clear h1 h2
    go_enter Try.func10, Try.ntmps10
    go_wp2
    go_ret
    exact ⟨ret_int (by simp [swp]), rfl⟩

set_option maxHeartbeats 1000000 in
theorem rev_any (c : Int) (w : World) (h1 : -9223372036854775808 ≤ c) (h2 : c ≤ 9223372036854775807) :
    Calls Try.prog 11 #[.int .i64 c] w fun e w' => e = .returned (.int .i64 (rev c)) ∧ w' = w := by
  by_cases hm : c = -9223372036854775808
  · subst hm
    go_enter Try.func11, Try.ntmps11
    go_wp2
    go_ret
    exact ⟨ret_int (by simp [rev]), rfl⟩
  · have hm2 : -9223372036854775807 ≤ c := by omega
    have HM : Hid (¬ c = -9223372036854775808) := hm
    clear hm h1
    go_enter Try.func11, Try.ntmps11
    go_wp2
    go_ret
    exact ⟨ret_int (by rw [rev, if_neg HM.out]), rfl⟩

end Go.Proofs.Qxb6619200a.Cmp
