import Derived.Test.Qxb6619264aCn
import Derived.WalkSpells
namespace Go.Proofs.Qxb6619264a.Cl
open Go.RowKit Go.Proofs.Qxb6619264a.W

/-- block gl is a line -/
def Line (w : World) (gl : Nat) (vc vm : Value) (us sz : Int) (wr : Bool) : Prop := Blk w gl 54 [vc, vm, .int .u16 us, .int .u16 sz, .bool wr]

theorem Line.c0 {w : World} {gl : Nat} {vc vm : Value} {us sz : Int} {wr : Bool} (h : Line w gl vc vm us sz wr) : w.cell? ⟨gl, 0, none⟩ = some vc := Blk.cell h 0
theorem Line.c1 {w : World} {gl : Nat} {vc vm : Value} {us sz : Int} {wr : Bool} (h : Line w gl vc vm us sz wr) : w.cell? ⟨gl, 1, none⟩ = some vm := Blk.cell h 1
theorem Line.c2 {w : World} {gl : Nat} {vc vm : Value} {us sz : Int} {wr : Bool} (h : Line w gl vc vm us sz wr) : w.cell? ⟨gl, 2, none⟩ = some (.int .u16 us) := Blk.cell h 2
theorem Line.c3 {w : World} {gl : Nat} {vc vm : Value} {us sz : Int} {wr : Bool} (h : Line w gl vc vm us sz wr) : w.cell? ⟨gl, 3, none⟩ = some (.int .u16 sz) := Blk.cell h 3
theorem Line.c4 {w : World} {gl : Nat} {vc vm : Value} {us sz : Int} {wr : Bool} (h : Line w gl vc vm us sz wr) : w.cell? ⟨gl, 4, none⟩ = some (.bool wr) := Blk.cell h 4
theorem Line.fz {w : World} {gl : Nat} {vc vm : Value} {us sz : Int} {wr : Bool} (h : Line w gl vc vm us sz wr) (j : Nat) : w.frozen? ⟨gl, j, none⟩ = false := Blk.frozen h j
theorem Line.s0 {w : World} {gl : Nat} {vc vm : Value} {us sz : Int} {wr : Bool} (h : Line w gl vc vm us sz wr) (v : Value) : Line (w.setCell ⟨gl, 0, none⟩ v) gl v vm us sz wr := Blk.set h 0 v
theorem Line.s1 {w : World} {gl : Nat} {vc vm : Value} {us sz : Int} {wr : Bool} (h : Line w gl vc vm us sz wr) (v : Value) : Line (w.setCell ⟨gl, 1, none⟩ v) gl vc v us sz wr := Blk.set h 1 v
theorem Line.s2 {w : World} {gl : Nat} {vc vm : Value} {us sz : Int} {wr : Bool} (h : Line w gl vc vm us sz wr) (x : Int) : Line (w.setCell ⟨gl, 2, none⟩ (.int .u16 x)) gl vc vm x sz wr := Blk.set h 2 _
theorem Line.s3 {w : World} {gl : Nat} {vc vm : Value} {us sz : Int} {wr : Bool} (h : Line w gl vc vm us sz wr) (x : Int) : Line (w.setCell ⟨gl, 3, none⟩ (.int .u16 x)) gl vc vm us x wr := Blk.set h 3 _
theorem Line.fr {S : Nat → Prop} {w w' : World} {gl : Nat} {vc vm : Value} {us sz : Int} {wr : Bool} (h : Line w gl vc vm us sz wr) (hf : Fr S w w') (hs : ¬ S gl) : Line w' gl vc vm us sz wr := hf.blk hs h

theorem only_set (w : World) (gl j : Nat) (v : Value) : Only gl w (w.setCell ⟨gl, j, none⟩ v) := Only.setCell w ⟨gl, j, none⟩ v

/-! ### (*line).reserve -/
set_option maxHeartbeats 1000000 in
theorem lreserve (gl : Nat) (vc vm : Value) (us sz : Int) (wr : Bool) (need cols : Int) (w : World) (hl : Line w gl vc vm us sz wr) (h0 : 0 ≤ sz) (h1 : sz ≤ 65535) (h2 : 1 ≤ need) (h3 : need ≤ 65535) (h4 : cols ≤ 65535) (h5 : -9223372036854775808 ≤ cols) :
    Calls Try.prog 31 #[.pointer (some ⟨gl, 0, none⟩), .int .i64 need, .int .i64 cols] w fun e w' => e = .returned (.tuple #[]) ∧ Only gl w w' ∧ Line w' gl vc vm us (rsv sz need cols) wr := by
  have k3 := hl.c3
  have kf := hl.fz 3
  have HL : Hid (Line w gl vc vm us sz wr) := hl
  clear hl
  by_cases c1 : need ≤ sz
  · have HR : Hid (rsv sz need cols = sz) := by unfold Hid rsv; rw [if_pos c1]
    go_enter Try.func31, Try.ntmps31
    go_wp2
    refine bodyPost_ret (results_none rfl _ _ _) rfl ?_
    exact ⟨rfl, Only.refl _ _, by rw [HR.out]; exact HL.out⟩
  · by_cases cn : cols < 0
    · have HR : Hid (rsv sz need cols = need) := by unfold Hid rsv; rw [if_neg c1, if_neg (by omega), if_neg (by omega), if_neg (by omega)]
      obtain ⟨t1, t2⟩ := tdiv_neg_le (d := 4) cn (by omega)
      obtain ⟨t3, t4⟩ := tdiv_neg_le (d := 2) cn (by omega)
      go_enter Try.func31, Try.ntmps31
      go_wp2
      go_end0
      exact ⟨rfl, only_set _ _ _ _, by rw [HR.out]; exact HL.out.s3 _⟩
    · by_cases c2 : need < cols / 4
      · have HR : Hid (rsv sz need cols = cols / 4) := by unfold Hid rsv; rw [if_neg c1, if_pos c2]
        go_enter Try.func31, Try.ntmps31
        go_wp2
        go_end0
        exact ⟨rfl, only_set _ _ _ _, by rw [HR.out]; exact HL.out.s3 _⟩
      · by_cases c3 : need < cols / 2
        · have HR : Hid (rsv sz need cols = cols / 2) := by unfold Hid rsv; rw [if_neg c1, if_neg c2, if_pos c3]
          go_enter Try.func31, Try.ntmps31
          go_wp2
          go_end0
          exact ⟨rfl, only_set _ _ _ _, by rw [HR.out]; exact HL.out.s3 _⟩
        · by_cases c4 : need < cols
          · have HR : Hid (rsv sz need cols = cols) := by unfold Hid rsv; rw [if_neg c1, if_neg c2, if_neg c3, if_pos c4]
            go_enter Try.func31, Try.ntmps31
            go_wp2
            go_end0
            exact ⟨rfl, only_set _ _ _ _, by rw [HR.out]; exact HL.out.s3 _⟩
          · have HR : Hid (rsv sz need cols = need) := by unfold Hid rsv; rw [if_neg c1, if_neg c2, if_neg c3, if_neg c4]
            go_enter Try.func31, Try.ntmps31
            go_wp2
            go_end0
            exact ⟨rfl, only_set _ _ _ _, by rw [HR.out]; exact HL.out.s3 _⟩

/-! ### (*line).written -/
def mx (a b : Int) : Int := if a < b then b else a

set_option maxHeartbeats 1000000 in
theorem lwritten (gl : Nat) (vc vm : Value) (us sz : Int) (wr : Bool) (need cols : Int) (w : World) (hl : Line w gl vc vm us sz wr) (h0 : 0 ≤ sz) (h1 : sz ≤ 65535) (h2 : 1 ≤ need) (h3 : need ≤ 65535) (h4 : cols ≤ 65535) (h5 : -9223372036854775808 ≤ cols) :
    Calls Try.prog 32 #[.pointer (some ⟨gl, 0, none⟩), .int .i64 need, .int .i64 cols] w fun e w' => e = .returned (.tuple #[]) ∧ Only gl w w' ∧ Line w' gl vc vm (mx us need) (rsv sz need cols) wr := by
  have HL : Hid (Line w gl vc vm us sz wr) := hl
  clear hl
  by_cases hc : us < need
  · have HM : Hid (mx us need = need) := by unfold Hid mx; rw [if_pos hc]
    go_enter Try.func32, Try.ntmps32
    go_wp2_with fail
    refine (lreserve gl vc vm us sz wr need cols w HL.out h0 h1 h2 h3 h4 h5).mono ?_
    rintro e w1 ⟨rfl, ho, hl1⟩
    have k2 := hl1.c2
    have kf := hl1.fz 2
    have HL1 : Hid (Line w1 gl vc vm us (rsv sz need cols) wr) := hl1
    have HO : Hid (Only gl w w1) := ho
    clear hl1 ho
    go_wp2
    go_end0
    exact ⟨rfl, HO.out.trans (only_set _ _ _ _), by rw [HM.out]; exact HL1.out.s2 _⟩
  · have HM : Hid (mx us need = us) := by unfold Hid mx; rw [if_neg hc]
    go_enter Try.func32, Try.ntmps32
    go_wp2_with fail
    refine (lreserve gl vc vm us sz wr need cols w HL.out h0 h1 h2 h3 h4 h5).mono ?_
    rintro e w1 ⟨rfl, ho, hl1⟩
    have k2 := hl1.c2
    have kf := hl1.fz 2
    have HL1 : Hid (Line w1 gl vc vm us (rsv sz need cols) wr) := hl1
    have HO : Hid (Only gl w w1) := ho
    clear hl1 ho
    go_wp2
    go_end0
    exact ⟨rfl, HO.out.trans (only_set _ _ _ _), by rw [HM.out]; exact HL1.out.s2 _⟩

/-! ### the getters -/
set_option maxHeartbeats 400000 in
theorem getWrapped (gl : Nat) (vc vm : Value) (us sz : Int) (wr : Bool) (w : World) (hl : Line w gl vc vm us sz wr) :
    Calls Try.prog 13 #[.pointer (some ⟨gl, 0, none⟩)] w fun e w' => e = .returned (.bool wr) ∧ w' = w := by
  have k := hl.c4
  clear hl
  go_enter Try.func13, Try.ntmps13
  go_wp2
  go_ret
  exact ⟨rfl, rfl⟩
set_option maxHeartbeats 400000 in
theorem getUsed (gl : Nat) (vc vm : Value) (us sz : Int) (wr : Bool) (w : World) (hl : Line w gl vc vm us sz wr) :
    Calls Try.prog 15 #[.pointer (some ⟨gl, 0, none⟩)] w fun e w' => e = .returned (.int .u16 us) ∧ w' = w := by
  have k := hl.c2
  clear hl
  go_enter Try.func15, Try.ntmps15
  go_wp2
  go_ret
  exact ⟨rfl, rfl⟩
set_option maxHeartbeats 400000 in
theorem getSize (gl : Nat) (vc vm : Value) (us sz : Int) (wr : Bool) (w : World) (hl : Line w gl vc vm us sz wr) :
    Calls Try.prog 16 #[.pointer (some ⟨gl, 0, none⟩)] w fun e w' => e = .returned (.int .u16 sz) ∧ w' = w := by
  have k := hl.c3
  clear hl
  go_enter Try.func16, Try.ntmps16
  go_wp2
  go_ret
  exact ⟨rfl, rfl⟩
set_option maxHeartbeats 400000 in
theorem getCells (gl : Nat) (a : Option Addr) (n c : Nat) (vm : Value) (us sz : Int) (wr : Bool) (w : World) (hl : Line w gl (.slice a n c) vm us sz wr) :
    Calls Try.prog 17 #[.pointer (some ⟨gl, 0, none⟩)] w fun e w' => e = .returned (.slice a n c) ∧ w' = w := by
  have k := hl.c0
  clear hl
  go_enter Try.func17, Try.ntmps17
  go_wp2
  go_ret
  exact ⟨rfl, rfl⟩
set_option maxHeartbeats 400000 in
theorem getMarksNil (gl : Nat) (vc : Value) (m : Option Nat) (us sz : Int) (wr : Bool) (w : World) (hl : Line w gl vc (.map m) us sz wr) :
    Calls Try.prog 18 #[.pointer (some ⟨gl, 0, none⟩)] w fun e w' => e = .returned (.bool m.isNone) ∧ w' = w := by
  have k := hl.c1
  clear hl
  have q := fun w => run_eql_map_nil (P := Try.prog) w 52 3 22 m Try.underlying52
  cases m with
  | none =>
    go_enter Try.func18, Try.ntmps18
    go_wp2
    go_ret
    exact ⟨rfl, rfl⟩
  | some b =>
    go_enter Try.func18, Try.ntmps18
    go_wp2
    go_ret
    exact ⟨rfl, rfl⟩

end Go.Proofs.Qxb6619264a.Cl
