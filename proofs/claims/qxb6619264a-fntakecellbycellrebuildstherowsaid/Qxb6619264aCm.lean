import Derived.Test.Qxb6619264aCl
namespace Go.Proofs.Qxb6619264a.Cl
open Go.RowKit Go.Proofs.Qxb6619264a.W

def upd (G : Nat → Value) (k : Nat) (v : Value) (i : Nat) : Value := if i = k then v else G i

set_option maxHeartbeats 400000 in
theorem cloneRows (a : Option Addr) (n c : Nat) (A : Nat → Option Addr) (L Cp : Nat → Nat) (R : Nat → Nat → Int) (w : World) (hn : n ≤ 1048576) (ha : a = none → n = 0)
    (hin : In w a n (fun i => .slice (A i) (L i) (Cp i))) (hL : ∀ i, i < n → L i ≤ 1048576) (hA : ∀ i, i < n → A i = none → L i = 0) (hR : ∀ i, i < n → In w (A i) (L i) (fun j => .int .i32 (R i j))) :
    Calls Try.prog 10 #[.slice a n c] w fun e w' => ∃ v V, e = .returned v ∧ Below w.heap.size w w' ∧ Own w' w.heap.size w'.heap.size 22 v a.isNone n V ∧
      ∀ i, i < n → Own w' w.heap.size w'.heap.size 21 (V i) (A i).isNone (L i) (fun j => .int .i32 (R i j)) := by
  cases a with
  | none =>
    obtain rfl : n = 0 := ha rfl
    have q := fun w => Lib.run_eql_slice_nil (P := Try.prog) w 24 22 none 0 c 0 0 Try.underlying24
    clear hin ha hL hA hR
    go_enter Try.func10, Try.ntmps10
    go_wp2
    go_ret
    exact ⟨_, fun _ => .slice none 0 0, rfl, Below.refl _ _, .inl ⟨rfl, rfl, rfl⟩, fun i hi => absurd hi (Nat.not_lt_zero _)⟩
  | some x =>
    clear ha
    have q := fun w => Lib.run_eql_slice_nil (P := Try.prog) w 24 22 (some x) n c 0 0 Try.underlying24
    have HI : Hid (In w (some x) n (fun i => .slice (A i) (L i) (Cp i))) := hin
    have HL : Hid (∀ i, i < n → L i ≤ 1048576) := hL
    have HA : Hid (∀ i, i < n → A i = none → L i = 0) := hA
    have HR : Hid (∀ i, i < n → In w (A i) (L i) (fun j => .int .i32 (R i j))) := hR
    clear hin hL hA hR
    go_enter Try.func10, Try.ntmps10
    go_wp2_with (at_make; refine wpList_mk _ rfl _ _ 24 rfl 22 (.slice none 0 0) 1 24 Try.underlying24 info22 _ _ _ _ n rfl rfl rfl rfl (by omega) (by unfold maxLen; omega) ?_; intro w1 hb1 hbel1 hs1)
    rw [toList_made_rowOf _ _ rfl] at hb1
    have HB : Hid (Blk w1 w.heap.size 22 (rowOf (fun _ => .slice none 0 0) n)) := hb1
    have HS1 : Hid (w1.heap.size = w.heap.size + 1) := hs1
    clear hb1 hs1
    rcases HI.out with hz | ⟨b, o, hx, hb, hc⟩
    · subst hz
      go_loopw [4] (fun i wr => i = .int .i64 0 ∧ wr = w1) (fun _ _ => 0)
      case atStart => exact ⟨rfl, rfl⟩
      case round =>
        obtain ⟨rfl, rfl⟩ := hrel
        go_wp2
        go_ret
        exact ⟨_, _, rfl, hbel1, .inr ⟨rfl, _, Nat.le_refl _, by rw [HS1.out]; exact Nat.lt_succ_self _, rfl, HB.out⟩, fun i hi => absurd hi (Nat.not_lt_zero _)⟩
    · simp only [Option.some.injEq] at hx
      subst hx
      have HC : Hid (∀ i, i < n → w.cell? ⟨b, o + i, none⟩ = some (.slice (A i) (L i) (Cp i))) := hc
      clear hc
      go_loopw [4] (fun i wr => ∃ (k : Nat) (G : Nat → Value), k ≤ n ∧ i = .int .i64 k ∧ Below w.heap.size w wr ∧ w.heap.size < wr.heap.size ∧ Blk wr w.heap.size 22 (rowOf G n) ∧
          ∀ i, i < k → Own wr (w.heap.size + 1) wr.heap.size 21 (G i) (A i).isNone (L i) (fun j => .int .i32 (R i j))) (fun i _ => n - (intOf i).toNat)
      case atStart => exact ⟨0, _, Nat.zero_le _, rfl, hbel1, by rw [HS1.out]; exact Nat.lt_succ_self _, HB.out, fun i hi => absurd hi (Nat.not_lt_zero _)⟩
      case round =>
        obtain ⟨k, G, hk, rfl, hbel, hsz, hblk, hrows⟩ := hrel
        clear hbel1
        have HW : Hid (∀ i, i < k → Own wr (w.heap.size + 1) wr.heap.size 21 (G i) (A i).isNone (L i) (fun j => .int .i32 (R i j))) := hrows
        clear hrows
        by_cases hlt : k < n
        · have h1 : wr.cell? ⟨b, o + k, none⟩ = some (.slice (A k) (L k) (Cp k)) := (hbel.cell (p := ⟨b, o + k, none⟩) hb).trans (HC.out k hlt)
          have HIk : Hid (In wr (A k) (L k) (fun j => .int .i32 (R k j))) := by
            rcases HR.out k hlt with h | ⟨b', o', e', hb', hc'⟩
            · exact .inl h
            · exact .inr ⟨b', o', e', Nat.lt_of_lt_of_le hb' hbel.size, fun i hi => (hbel.cell (p := ⟨b', o' + i, none⟩) hb').trans (hc' i hi)⟩
          go_wp2_with fail
          refine (cloneR (A k) (L k) (Cp k) (R k) wr (HL.out k hlt) (HA.out k hlt) HIk.out).mono ?_
          rintro e w2 ⟨v, rfl, hb2, ho2⟩
          have HO2 : Hid (Own w2 wr.heap.size w2.heap.size 21 v (A k).isNone (L k) (fun j => .int .i32 (R k j))) := ho2
          obtain ⟨a', hv, _, _⟩ := ho2.isIn
          subst hv
          have hk2 : Blk w2 w.heap.size 22 (rowOf G n) := hblk.below hb2 hsz
          have h2 : w2.cell? ⟨w.heap.size, k, none⟩ = some (G k) := by rw [hk2.cell, rowOf_get _ hlt]
          have h3 : w2.frozen? ⟨w.heap.size, k, none⟩ = false := hk2.frozen k
          have hsz2 : w.heap.size < w2.heap.size := Nat.lt_of_lt_of_le hsz hb2.size
          have bel2 : Below w.heap.size w w2 := hbel.trans (hb2.mono (by omega))
          have HB2 : Hid (Blk (w2.setCell ⟨w.heap.size, k, none⟩ (.slice a' (L k) (L k))) w.heap.size 22 (rowOf (upd G k (.slice a' (L k) (L k))) n)) := by
            have h := hk2.set k (.slice a' (L k) (L k))
            rw [rowOf_set (G := upd G k (.slice a' (L k) (L k))) (fun i hi he => by simp [upd, he]) (fun _ => by simp [upd])] at h
            exact h
          have HW2 : Hid (∀ i, i < k + 1 → Own (w2.setCell ⟨w.heap.size, k, none⟩ (.slice a' (L k) (L k))) (w.heap.size + 1) w2.heap.size 21 (upd G k (.slice a' (L k) (L k)) i) (A i).isNone (L i) (fun j => .int .i32 (R i j))) := by
            intro i hi
            have hfr : Fr (fun k => k = w.heap.size) w2 (w2.setCell ⟨w.heap.size, k, none⟩ (.slice a' (L k) (L k))) := Fr.ofOnly (Only.setCell w2 ⟨w.heap.size, k, none⟩ _)
            by_cases e : i = k
            · subst e
              simp only [upd, if_true]
              exact (HO2.out.mono (by omega) (Nat.le_refl _)).fr hfr (fun j h1 h2 => by omega)
            · simp only [upd, if_neg e]
              exact (((HW.out i (by omega)).below hb2).mono (Nat.le_refl _) hb2.size).fr hfr (fun j h1 h2 => by omega)
          clear hk2 hblk hb2 hbel h1 ho2
          go_wp2
          go_roundw
          case rel => exact ⟨k + 1, _, hlt, by go_num, bel2.setCell (p := ⟨w.heap.size, _, none⟩) (Nat.le_refl _) _, by simp [World.setCell]; exact hsz2, HB2.out, by simpa [World.setCell] using HW2.out⟩
          case measure => simp [intOf]; omega
        · go_wp2
          go_ret
          exact ⟨_, G, rfl, hbel, .inr ⟨rfl, _, Nat.le_refl _, hsz, rfl, hblk⟩, fun i hi => (HW.out i (by omega)).mono (by omega) (Nat.le_refl _)⟩

end Go.Proofs.Qxb6619264a.Cl
