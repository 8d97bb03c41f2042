import Derived.Test.Qxb6619264aRows
import Derived.Test.Qxb6619264aV
namespace Go.Proofs.Qxb6619264a.Cl
open Go.RowKit Go.Proofs.Qxb6619264a.W

theorem info21 : (Try.prog.info? 21).map (fun i => (i.zero, i.size, i.bytes)) = some (some (.int .i32 0), 1, 4) := by kernel_rfl
theorem info3 : (Try.prog.info? 3).map (fun i => (i.zero, i.size, i.bytes)) = some (some (.int .i64 0), 1, 8) := by kernel_rfl
theorem info22 : (Try.prog.info? 22).map (fun i => (i.zero, i.size, i.bytes)) = some (some (.slice none 0 0), 1, 24) := by kernel_rfl


/-- the row while it is filled -/
def fillR (C : Nat → Int) (k : Nat) (i : Nat) : Value := if i < k then .int .i32 (C i) else .int .i32 0

set_option maxHeartbeats 400000 in
theorem cloneR (a : Option Addr) (n c : Nat) (C : Nat → Int) (w : World) (hn : n ≤ 1048576) (ha : a = none → n = 0) (hin : In w a n (fun i => .int .i32 (C i))) :
    Calls Try.prog 8 #[.slice a n c] w fun e w' => ∃ v, e = .returned v ∧ Below w.heap.size w w' ∧ Own w' w.heap.size w'.heap.size 21 v a.isNone n (fun i => .int .i32 (C i)) := by
  cases a with
  | none =>
    obtain rfl : n = 0 := ha rfl
    have q := fun w => Lib.run_eql_slice_nil (P := Try.prog) w 22 21 none 0 c 0 0 Try.underlying22
    clear hin ha
    go_enter Try.func8, Try.ntmps8
    go_wp2
    go_ret
    exact ⟨_, rfl, Below.refl _ _, .inl ⟨rfl, rfl, rfl⟩⟩
  | some x =>
    clear ha
    have q := fun w => Lib.run_eql_slice_nil (P := Try.prog) w 22 21 (some x) n c 0 0 Try.underlying22
    have HI : Hid (In w (some x) n (fun i => .int .i32 (C i))) := hin
    clear hin
    go_enter Try.func8, Try.ntmps8
    go_wp2_with (at_make; refine wpList_mk _ rfl _ _ 22 rfl 21 (.int .i32 0) 1 4 Try.underlying22 info21 _ _ _ _ n rfl rfl rfl rfl (by omega) (by unfold maxLen; omega) ?_; intro w1 hb1 hbel1 hs1)
    rw [toList_made_rowOf _ _ rfl] at hb1
    have HB : Hid (Blk w1 w.heap.size 21 (rowOf (fillR C 0) n)) := by
      rw [rowOf_congr (F := fillR C 0) (G := fun _ => .int .i32 0) (fun i _ => by simp [fillR])]; exact hb1
    have HS1 : Hid (w1.heap.size = w.heap.size + 1) := hs1
    clear hb1 hs1
    rcases HI.out with hz | ⟨b, o, hx, hb, hc⟩
    · subst hz
      go_loopw [4] (fun i wr => i = .int .i64 0 ∧ wr = w1) (fun _ _ => 0)
      case atStart => exact ⟨rfl, rfl⟩
      case round =>
        obtain ⟨rfl, rfl⟩ := hrel
        go_wp2
        go_ret
        exact ⟨_, rfl, hbel1, .inr ⟨rfl, _, Nat.le_refl _, by rw [HS1.out]; exact Nat.lt_succ_self _, rfl, HB.out⟩⟩
    · simp only [Option.some.injEq] at hx
      subst hx
      have HC : Hid (∀ i, i < n → w.cell? ⟨b, o + i, none⟩ = some (.int .i32 (C i))) := hc
      clear hc
      go_loopw [4] (fun i wr => ∃ k : Nat, k ≤ n ∧ i = .int .i64 k ∧ Below w.heap.size w wr ∧ wr.heap.size = w.heap.size + 1 ∧ Blk wr w.heap.size 21 (rowOf (fillR C k) n)) (fun i _ => n - (intOf i).toNat)
      case atStart => exact ⟨0, Nat.zero_le _, rfl, hbel1, HS1.out, HB.out⟩
      case round =>
        obtain ⟨k, hk, rfl, hbel, hsz, hblk⟩ := hrel
        clear hbel1
        have HZ : Hid (wr.heap.size = w.heap.size + 1) := hsz
        clear hsz
        by_cases hlt : k < n
        · have h1 : wr.cell? ⟨b, o + k, none⟩ = some (.int .i32 (C k)) := (hbel.cell (p := ⟨b, o + k, none⟩) hb).trans (HC.out k hlt)
          have h2 : wr.cell? ⟨w.heap.size, k, none⟩ = some (.int .i32 0) := by rw [hblk.cell, rowOf_get _ hlt]; simp [fillR]
          have h3 : wr.frozen? ⟨w.heap.size, k, none⟩ = false := hblk.frozen k
          have HB2 : Hid (Blk (wr.setCell ⟨w.heap.size, k, none⟩ (.int .i32 (C k))) w.heap.size 21 (rowOf (fillR C (k + 1)) n)) := by
            have h := hblk.set k (.int .i32 (C k))
            rw [rowOf_set (G := fillR C (k + 1)) (fun i hi he => by unfold fillR; by_cases e : i < k <;> simp [e] <;> omega) (fun _ => by simp [fillR])] at h
            exact h
          clear hblk
          go_wp2
          go_roundw
          case rel => exact ⟨k + 1, hlt, by go_num, hbel.setCell (p := ⟨w.heap.size, _, none⟩) (Nat.le_refl _) _, by simp [World.setCell]; exact HZ.out, HB2.out⟩
          case measure => simp [intOf]; omega
        · have HB2 : Hid (Blk wr w.heap.size 21 (rowOf (fun i => .int .i32 (C i)) n)) := by
            rw [rowOf_congr (F := fun i => .int .i32 (C i)) (G := fillR C k) (fun i hi => by unfold fillR; rw [if_pos (by omega)])]; exact hblk
          clear hblk
          go_wp2
          go_ret
          exact ⟨_, rfl, hbel, .inr ⟨rfl, _, Nat.le_refl _, by rw [HZ.out]; exact Nat.lt_succ_self _, rfl, HB2.out⟩⟩

/-- the row while it is filled -/
def fillK (C : Nat → Int) (k : Nat) (i : Nat) : Value := if i < k then .int .i64 (C i) else .int .i64 0

set_option maxHeartbeats 400000 in
theorem cloneK (a : Option Addr) (n c : Nat) (C : Nat → Int) (w : World) (hn : n ≤ 1048576) (ha : a = none → n = 0) (hin : In w a n (fun i => .int .i64 (C i))) :
    Calls Try.prog 9 #[.slice a n c] w fun e w' => ∃ v, e = .returned v ∧ Below w.heap.size w w' ∧ Own w' w.heap.size w'.heap.size 3 v a.isNone n (fun i => .int .i64 (C i)) := by
  cases a with
  | none =>
    obtain rfl : n = 0 := ha rfl
    have q := fun w => Lib.run_eql_slice_nil (P := Try.prog) w 23 3 none 0 c 0 0 Try.underlying23
    clear hin ha
    go_enter Try.func9, Try.ntmps9
    go_wp2
    go_ret
    exact ⟨_, rfl, Below.refl _ _, .inl ⟨rfl, rfl, rfl⟩⟩
  | some x =>
    clear ha
    have q := fun w => Lib.run_eql_slice_nil (P := Try.prog) w 23 3 (some x) n c 0 0 Try.underlying23
    have HI : Hid (In w (some x) n (fun i => .int .i64 (C i))) := hin
    clear hin
    go_enter Try.func9, Try.ntmps9
    go_wp2_with (at_make; refine wpList_mk _ rfl _ _ 23 rfl 3 (.int .i64 0) 1 8 Try.underlying23 info3 _ _ _ _ n rfl rfl rfl rfl (by omega) (by unfold maxLen; omega) ?_; intro w1 hb1 hbel1 hs1)
    rw [toList_made_rowOf _ _ rfl] at hb1
    have HB : Hid (Blk w1 w.heap.size 3 (rowOf (fillK C 0) n)) := by
      rw [rowOf_congr (F := fillK C 0) (G := fun _ => .int .i64 0) (fun i _ => by simp [fillK])]; exact hb1
    have HS1 : Hid (w1.heap.size = w.heap.size + 1) := hs1
    clear hb1 hs1
    rcases HI.out with hz | ⟨b, o, hx, hb, hc⟩
    · subst hz
      go_loopw [4] (fun i wr => i = .int .i64 0 ∧ wr = w1) (fun _ _ => 0)
      case atStart => exact ⟨rfl, rfl⟩
      case round =>
        obtain ⟨rfl, rfl⟩ := hrel
        go_wp2
        go_ret
        exact ⟨_, rfl, hbel1, .inr ⟨rfl, _, Nat.le_refl _, by rw [HS1.out]; exact Nat.lt_succ_self _, rfl, HB.out⟩⟩
    · simp only [Option.some.injEq] at hx
      subst hx
      have HC : Hid (∀ i, i < n → w.cell? ⟨b, o + i, none⟩ = some (.int .i64 (C i))) := hc
      clear hc
      go_loopw [4] (fun i wr => ∃ k : Nat, k ≤ n ∧ i = .int .i64 k ∧ Below w.heap.size w wr ∧ wr.heap.size = w.heap.size + 1 ∧ Blk wr w.heap.size 3 (rowOf (fillK C k) n)) (fun i _ => n - (intOf i).toNat)
      case atStart => exact ⟨0, Nat.zero_le _, rfl, hbel1, HS1.out, HB.out⟩
      case round =>
        obtain ⟨k, hk, rfl, hbel, hsz, hblk⟩ := hrel
        clear hbel1
        have HZ : Hid (wr.heap.size = w.heap.size + 1) := hsz
        clear hsz
        by_cases hlt : k < n
        · have h1 : wr.cell? ⟨b, o + k, none⟩ = some (.int .i64 (C k)) := (hbel.cell (p := ⟨b, o + k, none⟩) hb).trans (HC.out k hlt)
          have h2 : wr.cell? ⟨w.heap.size, k, none⟩ = some (.int .i64 0) := by rw [hblk.cell, rowOf_get _ hlt]; simp [fillK]
          have h3 : wr.frozen? ⟨w.heap.size, k, none⟩ = false := hblk.frozen k
          have HB2 : Hid (Blk (wr.setCell ⟨w.heap.size, k, none⟩ (.int .i64 (C k))) w.heap.size 3 (rowOf (fillK C (k + 1)) n)) := by
            have h := hblk.set k (.int .i64 (C k))
            rw [rowOf_set (G := fillK C (k + 1)) (fun i hi he => by unfold fillK; by_cases e : i < k <;> simp [e] <;> omega) (fun _ => by simp [fillK])] at h
            exact h
          clear hblk
          go_wp2
          go_roundw
          case rel => exact ⟨k + 1, hlt, by go_num, hbel.setCell (p := ⟨w.heap.size, _, none⟩) (Nat.le_refl _) _, by simp [World.setCell]; exact HZ.out, HB2.out⟩
          case measure => simp [intOf]; omega
        · have HB2 : Hid (Blk wr w.heap.size 3 (rowOf (fun i => .int .i64 (C i)) n)) := by
            rw [rowOf_congr (F := fun i => .int .i64 (C i)) (G := fillK C k) (fun i hi => by unfold fillK; rw [if_pos (by omega)])]; exact hblk
          clear hblk
          go_wp2
          go_ret
          exact ⟨_, rfl, hbel, .inr ⟨rfl, _, Nat.le_refl _, by rw [HZ.out]; exact Nat.lt_succ_self _, rfl, HB2.out⟩⟩

end Go.Proofs.Qxb6619264a.Cl
