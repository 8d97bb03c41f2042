import Derived.Test.Qxb6619200aRows
import Derived.WalkKit
namespace Go.Proofs.Qxb6619200a.Prin
open Go.RowKit

theorem ret_bool {a b : Bool} (h : a = b) : Ending.returned (.bool a) = .returned (.bool b) := by rw [h]

def okb (b : UInt8) : Bool := decide (32 ≤ (b.toNat : Int) ∧ (b.toNat : Int) ≤ 126)
def prB (l : List UInt8) : Bool := !l.isEmpty && l.all okb

theorem take_snoc (s : ByteArray) (k : Nat) (h : k < s.size) : s.data.toList.take (k + 1) = s.data.toList.take k ++ [s[k]] := by
  rw [List.take_succ_eq_append_getElem (by simpa using h)]; rfl

theorem all_mem_false (s : ByteArray) (k : Nat) (h : k < s.size) (hk : okb s[k] = false) : prB s.data.toList = false := by
  have hm : s[k] ∈ s.data.toList := by
    have : s[k] = s.data.toList[k]'(by simpa using h) := rfl
    rw [this]; exact List.getElem_mem _
  unfold prB
  rw [Bool.and_eq_false_iff]; right
  rw [List.all_eq_false]
  exact ⟨_, hm, by simp [hk]⟩

theorem toList_isEmpty_true (s : ByteArray) (h : s.size = 0) : s.toList.isEmpty = true := by
  rw [ByteArray.toList_eq]
  have : s.data = #[] := Array.eq_empty_of_size_eq_zero h
  rw [this]; rfl
theorem toList_isEmpty_false (s : ByteArray) (h : ¬ s.size = 0) : s.toList.isEmpty = false := by
  rw [ByteArray.toList_eq]
  cases hh : s.data.toList with
  | nil => exact absurd (by have := congrArg List.length hh; simpa using this) h
  | cons a l => rfl
theorem data_isEmpty_false (s : ByteArray) (h : ¬ s.size = 0) : s.data.toList.isEmpty = false := by
  rw [← ByteArray.toList_eq]; exact toList_isEmpty_false s h

theorem prB_empty (s : ByteArray) (h : s.size = 0) : prB s.data.toList = false := by
  have : s.data = #[] := Array.eq_empty_of_size_eq_zero h
  rw [this]; rfl

set_option maxHeartbeats 400000 in
theorem prin_any (s : ByteArray) (w : World) (hs : s.size ≤ 1048576) :
    Calls Try.prog 7 #[.string s] w fun e w' => e = .returned (.bool (prB s.data.toList)) ∧ w' = w := by
  by_cases h0 : s.size = 0
  · have he := toList_isEmpty_true s h0
    have HP : Hid (prB s.data.toList = false) := prB_empty s h0
    go_enter Try.func7, Try.ntmps7
    go_wp2
    go_ret
    exact ⟨ret_bool HP.out.symm, rfl⟩
  · have he := toList_isEmpty_false s h0
    have HE : Hid (s.data.toList.isEmpty = false) := data_isEmpty_false s h0
    go_enter Try.func7, Try.ntmps7
    go_wp2
    go_loop [8] (fun i => ∃ k : Nat, k ≤ s.size ∧ i = .int .i64 k ∧ (s.data.toList.take k).all okb = true) (fun i => s.size - (intOf i).toNat)
    case atStart => exact ⟨0, Nat.zero_le _, rfl, rfl⟩
    case round =>
      obtain ⟨k, hk, rfl, hall⟩ := hrel
      have HA : Hid ((s.data.toList.take k).all okb = true) := hall
      clear hall
      by_cases hlt : k < s.size
      · by_cases h1 : (s[k].toNat : Int) < 32
        · go_wp2
          go_ret
          exact ⟨ret_bool (all_mem_false s k hlt (by simp [okb]; omega)).symm, rfl⟩
        · by_cases h2 : 126 < (s[k].toNat : Int)
          · go_wp2
            go_ret
            exact ⟨ret_bool (all_mem_false s k hlt (by simp [okb]; omega)).symm, rfl⟩
          · go_wp2
            go_round
            case rel => exact ⟨k + 1, by omega, by go_num, by rw [take_snoc s k hlt, List.all_append, HA.out]; simp [okb]; omega⟩
            case measure => simp [intOf]; omega
      · go_wp2
        go_ret
        refine ⟨ret_bool ?_, rfl⟩
        have e : s.data.toList.take k = s.data.toList := List.take_of_length_le (by simp; omega)
        have := HA.out
        rw [e] at this
        unfold prB
        rw [this, HE.out]
        rfl

theorem prin_val (s : ByteArray) (w : World) (hs : s.size ≤ 1048576) (b : Bool) (hb : Hid (prB s.data.toList = b)) :
    Calls Try.prog 7 #[.string s] w fun e w' => e = .returned (.bool b) ∧ w' = w := by
  have := prin_any s w hs
  rw [hb.out] at this
  exact this

theorem data_extract (s : ByteArray) (a b : Nat) : (s.extract a b).data.toList = (s.data.toList.drop a).take (b - a) := by
  rw [ByteArray.data_extract, Array.toList_extract, List.extract_eq_take_drop]

theorem size_ext (s : ByteArray) (a b : Nat) (h : s.size ≤ 1048576) : (s.extract a b).size ≤ 1048576 := by
  rw [ByteArray.size_extract]; omega

theorem prB_split (l : List UInt8) (k : Nat) (h1 : (l.take k).isEmpty = false) (h2 : (l.drop k).isEmpty = false) : prB l = (prB (l.take k) && prB (l.drop k)) := by
  unfold prB
  rw [h1, h2]
  have e : l.all okb = ((l.take k).all okb && (l.drop k).all okb) := by
    rw [← List.all_append, List.take_append_drop]
  have h3 : l.isEmpty = false := by
    cases l with
    | nil => simp at h1
    | cons a l => rfl
  rw [h3, e]; simp

theorem one_of (s : ByteArray) (k : Nat) (h : k < s.size) : prB (s.extract k (k + 1)).data.toList = okb s[k] := by
  rw [data_extract]
  have e : (s.data.toList.drop k).take (k + 1 - k) = [s[k]] := by
    rw [show k + 1 - k = 1 from by omega, List.drop_eq_getElem_cons (by simpa using h)]
    rfl
  rw [e]; simp [prB]

end Go.Proofs.Qxb6619200a.Prin
