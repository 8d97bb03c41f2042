import Derived.Test.Qxb6619264aInW
namespace Go.Proofs.Qxb6619264a.InW
open Go.RowKit Go.Proofs.Qxb6619264a.W

theorem info25 : (Try.prog.info? 25).map (fun i => (i.zero, i.size, i.bytes)) = some (some (.int .u16 0), 1, 2) := by kernel_rfl
theorem info4 : (Try.prog.info? 4).map (fun i => (i.zero, i.size, i.bytes)) = some (some (.bool false), 1, 1) := by kernel_rfl

theorem size25 : (Try.prog.info? 25).map (·.size) = some 1 := by kernel_rfl
theorem size4 : (Try.prog.info? 4).map (·.size) = some 1 := by kernel_rfl

set_option maxHeartbeats 400000 in
theorem zzin_any (g n c : Nat) (U : Nat → Int) (V : Nat → Bool) (ln : Int) (w : World) (hn1 : 1 ≤ n) (hn : n ≤ 65536) (hln : 0 ≤ ln) (hlm : ln ≤ 9223372036854775807)
    (hgs : g < w.heap.size) (hcu : ∀ i, i < n → w.cell? ⟨g, i * 5 + 2, none⟩ = some (.int .u16 (U i))) (hcv : ∀ i, i < n → w.cell? ⟨g, i * 5 + 4, none⟩ = some (.bool (V i)))
    (hU : ∀ i, i < n → 0 ≤ U i ∧ U i ≤ 65535) :
    Calls Try.prog 25 #[.int .i64 ln, .int .i64 (-1), .slice (some ⟨g, 0, none⟩) n c] w fun e w' => ∃ y : Nat, e = .returned (.tuple #[.int .i64 (U y), .int .i64 y]) ∧ InAt V n ln y ∧ Below w.heap.size w w' := by
  have HU : Hid (∀ i, i < n → w.cell? ⟨g, i * 5 + 2, none⟩ = some (.int .u16 (U i))) := hcu
  have HV : Hid (∀ i, i < n → w.cell? ⟨g, i * 5 + 4, none⟩ = some (.bool (V i))) := hcv
  have HW : Hid (∀ i, i < n → 0 ≤ U i ∧ U i ≤ 65535) := hU
  clear hcu hcv hU
  go_enter Try.func25, Try.ntmps25
  go_wp2_with fail
  refine (in_any g n c U V ln _ hn1 hn hln hlm hgs HU.out HV.out HW.out).mono ?_
  rintro e w' ⟨y, rfl, hi, hb⟩
  have HI : Hid (InAt V n ln y) := hi
  clear hi
  go_wp2
  go_ret2
  exact ⟨y, rfl, HI.out, hb⟩

set_option maxRecDepth 10000 in
set_option maxHeartbeats 1000000 in
theorem law_core (a0 : Int) (bu ou cu bw ow cw n : Nat) (U : Nat → Int) (V : Nat → Bool) (w : World) (hn1 : 1 ≤ n) (hn : n ≤ 65536) (hln : 0 ≤ a0) (hlm : a0 ≤ 9223372036854775806)
    (hU : ∀ i, i < n → 0 ≤ U i ∧ U i ≤ 65535) (hcu : ∀ i, i < n → w.cell? ⟨bu, ou + i, none⟩ = some (.int .u16 (U i))) (hcv : ∀ i, i < n → w.cell? ⟨bw, ow + i, none⟩ = some (.bool (V i))) (hbu : bu < w.heap.size) (hbw : bw < w.heap.size) :
    Calls Try.prog 4 #[.int .i64 a0, .slice (some ⟨bu, ou, none⟩) n cu, .slice (some ⟨bw, ow, none⟩) n cw] w fun e w' => e = .returned (.bool true) ∧ Below w.heap.size w w' := by
  have HU : Hid (∀ i, i < n → w.cell? ⟨bu, ou + i, none⟩ = some ((fun i => Value.int .u16 (U i)) i)) := hcu
  have HV : Hid (∀ i, i < n → w.cell? ⟨bw, ow + i, none⟩ = some ((fun i => Value.bool (V i)) i)) := hcv
  have HW : Hid (∀ i, i < n → 0 ≤ U i ∧ U i ≤ 65535) := hU
  clear hcu hcv hU
  have hz : ((n : Int) == 0) = false := by simp; omega
  have q1 := fun w => run_neq_slice_nil (P := Try.prog) w 43 25 (some ⟨bu, ou, none⟩) n cu Try.underlying43
  have q2 := fun w => run_neq_slice_nil (P := Try.prog) w 44 4 (some ⟨bw, ow, none⟩) n cw Try.underlying44
  go_enter Try.func4, Try.ntmps4
  go_wp2_with (first
    | (go_at_call 23; go_in)
    | (at_make; refine wpList_mk _ rfl _ _ 43 rfl 25 (.int .u16 0) 1 2 Try.underlying43 info25 _ _ _ _ n rfl rfl rfl rfl (by omega) (by unfold maxLen; omega) ?_; intro w1 hb1 hbel1 hs1; have HS1 : Hid (w1.heap.size = w.heap.size + 1) := hs1; clear hs1)
    | (refine wpList_cp _ rfl (.tmp 54) (.tmp 55) 43 rfl 25 Try.underlying43 size25 w.heap.size n n ⟨bu, ou, none⟩ cu _ (rowOf (fun i => Value.int .u16 (U i)) n) rfl rfl hb1 (by simp [madeCells]) (rowOf_len _ _) (rowOf_src _ HU hbu hbel1) (rowOf_one _ _ (fun _ => rfl)) ?_; clear hb1; intro w2 hb2 ho2; have HS2 : Hid (w2.heap.size = w.heap.size + 1) := ho2.size.trans HS1.out; have hbel2 : Below w.heap.size w w2 := hbel1.trans (ho2.below (Nat.le_refl _)); clear ho2 hbel1 HS1)
    | (at_make; refine wpList_mk _ rfl _ _ 44 rfl 4 (.bool false) 1 1 Try.underlying44 info4 _ _ _ _ n rfl rfl rfl rfl (by omega) (by unfold maxLen; omega) ?_; intro w3 hb3 hbel3 hs3; have HS3 : Hid (w3.heap.size = w2.heap.size + 1) := hs3; clear hs3; have hc3 : Below w.heap.size w w3 := hbel2.trans (hbel3.mono (by have := HS2.out; omega)); have hd3 : Blk w3 w.heap.size 25 (rowOf (fun i => Value.int .u16 (U i)) n) := hb2.below hbel3 (by have := HS2.out; omega); clear hb2 hbel2 hbel3)
    | (refine wpList_cp _ rfl (.tmp 63) (.tmp 64) 44 rfl 4 Try.underlying44 size4 w2.heap.size n n ⟨bw, ow, none⟩ cw _ (rowOf (fun i => Value.bool (V i)) n) rfl rfl hb3 (by simp [madeCells]) (rowOf_len _ _) (rowOf_src _ HV hbw hc3) (rowOf_one _ _ (fun _ => rfl)) ?_; clear hb3; intro w4 hb4 ho4; have HS4 : Hid (w4.heap.size = w2.heap.size + 1) := ho4.size.trans HS3.out; have hbel4 : Below w.heap.size w w4 := hc3.trans (ho4.below (by have := HS2.out; omega)); have hd4 : Blk w4 w.heap.size 25 (rowOf (fun i => Value.int .u16 (U i)) n) := ho4.blk (by have := HS2.out; omega) hd3; clear ho4 hc3 hd3 HS3))
  have hsz : w.heap.size < w2.heap.size := by have := HS2.out; omega
  have hU4 : ∀ j, j < n → w4.cell? ⟨w.heap.size, j, none⟩ = some (.int .u16 (U j)) := fun j hj => by rw [hd4.cell, rowOf_get _ hj]
  have hV4 : ∀ j, j < n → w4.cell? ⟨w2.heap.size, j, none⟩ = some (.bool (V j)) := fun j hj => by rw [hb4.cell, rowOf_get _ hj]
  refine (rows_any w.heap.size w2.heap.size n n n U V w4 hn hU4 hV4 hd4.lt hb4.lt).mono ?_
  rintro e w5 ⟨rfl, hbel5, hs5, cs, hb5, hcs⟩
  have HS5 : Hid (w5.heap.size = w4.heap.size + 1) := hs5
  have HC5 : Hid ((∀ i, i < n → w5.cell? ⟨w4.heap.size, i * 5 + 2, none⟩ = some (.int .u16 (U i))) ∧ (∀ i, i < n → w5.cell? ⟨w4.heap.size, i * 5 + 4, none⟩ = some (.bool (V i)))) :=
    ⟨fun i hi => by rw [hb5.cell]; exact (hcs i hi).1, fun i hi => by rw [hb5.cell]; exact (hcs i hi).2⟩
  have HU5 : Hid (∀ j, j < n → w5.cell? ⟨w.heap.size, j, none⟩ = some (.int .u16 (U j))) := fun j hj => (hbel5.cell (p := ⟨w.heap.size, j, none⟩) hd4.lt).trans (hU4 j hj)
  have HV5 : Hid (∀ j, j < n → w5.cell? ⟨w2.heap.size, j, none⟩ = some (.bool (V j))) := fun j hj => (hbel5.cell (p := ⟨w2.heap.size, j, none⟩) hb4.lt).trans (hV4 j hj)
  have B5 : Below w.heap.size w w5 := hbel4.trans (hbel5.mono (by have := hd4.lt; omega))
  have g5 : w.heap.size < w5.heap.size ∧ w2.heap.size < w5.heap.size ∧ w4.heap.size < w5.heap.size := by have := hd4.lt; have := hb4.lt; omega
  clear hs5 hcs hb5 hU4 hV4 hbel5 hbel4 hd4 hb4 HS4 HS2
  go_wp2_with fail
  refine (zzin_any w4.heap.size n n U V a0 w5 hn1 hn hln (by omega) g5.2.2 HC5.out.1 HC5.out.2 HW.out).mono ?_
  rintro e w6 ⟨y1, rfl, hi1, hb6⟩
  have HI1 : Hid (InAt V n a0 y1) := hi1
  have HC6 : Hid ((∀ i, i < n → w6.cell? ⟨w4.heap.size, i * 5 + 2, none⟩ = some (.int .u16 (U i))) ∧ (∀ i, i < n → w6.cell? ⟨w4.heap.size, i * 5 + 4, none⟩ = some (.bool (V i)))) :=
    ⟨fun i hi => (hb6.cell (p := ⟨w4.heap.size, i * 5 + 2, none⟩) g5.2.2).trans (HC5.out.1 i hi), fun i hi => (hb6.cell (p := ⟨w4.heap.size, i * 5 + 4, none⟩) g5.2.2).trans (HC5.out.2 i hi)⟩
  have g6 : w4.heap.size < w6.heap.size := by have := hb6.size; omega
  clear hi1
  go_wp2_with fail
  refine (zzin_any w4.heap.size n n U V (a0 + 1) w6 hn1 hn (by omega) (by omega) g6 HC6.out.1 HC6.out.2 HW.out).mono ?_
  rintro e w7 ⟨y2, rfl, hi2, hb7⟩
  have HI2 : Hid (InAt V n (a0 + 1) y2) := hi2
  have B7' : Below w5.heap.size w5 w7 := hb6.trans (hb7.mono hb6.size)
  have HU7 : Hid (∀ j, j < n → w7.cell? ⟨w.heap.size, j, none⟩ = some (.int .u16 (U j))) := fun j hj => (B7'.cell (p := ⟨w.heap.size, j, none⟩) g5.1).trans (HU5.out j hj)
  have HV7 : Hid (∀ j, j < n → w7.cell? ⟨w2.heap.size, j, none⟩ = some (.bool (V j))) := fun j hj => (B7'.cell (p := ⟨w2.heap.size, j, none⟩) g5.2.1).trans (HV5.out j hj)
  have B7 : Below w.heap.size w w7 := B5.trans (B7'.mono (by omega))
  have y1n : y1 < n := HI1.out.1
  have y2n : y2 < n := HI2.out.1
  have u1 : w7.cell? ⟨w.heap.size, y1, none⟩ = some (.int .u16 (U y1)) := HU7.out y1 y1n
  have u2 : w7.cell? ⟨w.heap.size, y2, none⟩ = some (.int .u16 (U y2)) := HU7.out y2 y2n
  obtain ⟨U10, U11⟩ := HW.out y1 y1n
  obtain ⟨U20, U21⟩ := HW.out y2 y2n
  clear hi2 hb7 hb6 B7' B5 g5 g6 HU7 HU5 HV5 HC5 HC6 HS5 HU HV HW hbu hbw hsz
  go_wp2
  go_loop [15, 16] (fun c i => ∃ k : Nat, k ≤ y1 ∧ i = .int .i64 k ∧ c = .int .i64 (ends V k)) (fun _ i => y1 - (intOf i).toNat)
  case atStart => exact ⟨0, Nat.zero_le _, rfl, rfl⟩
  case round =>
    obtain ⟨k, hk, rfl, rfl⟩ := hrel
    have hek : (ends V k : Int) ≤ k := by have := ends_le V k; omega
    by_cases hlt : k < y1
    · cases hv : V k with
      | true =>
        have v1 : w7.cell? ⟨w2.heap.size, k, none⟩ = some (.bool true) := by rw [← hv]; exact HV7.out k (by omega)
        have HR : Hid (ends V (k + 1) = ends V k) := by simp [Hid, ends, hv]
        clear hv
        go_wp2
        go_round
        case rel => exact ⟨k + 1, hlt, by go_num, by rw [HR.out]⟩
        case measure => simp [intOf]; omega
      | false =>
        have v1 : w7.cell? ⟨w2.heap.size, k, none⟩ = some (.bool false) := by rw [← hv]; exact HV7.out k (by omega)
        have HR : Hid (ends V (k + 1) = ends V k + 1) := by simp [Hid, ends, hv]
        clear hv
        go_wp2
        go_round
        case rel => exact ⟨k + 1, hlt, by go_num, by rw [HR.out]; go_num⟩
        case measure => simp [intOf]; omega
    · obtain rfl : k = y1 := by omega
      by_cases hl : k + 1 < n
      · obtain ⟨p1, p2⟩ := HI1.out.2.2 hl
        have v1 : w7.cell? ⟨w2.heap.size, k, none⟩ = some (.bool false) := by rw [← p1]; exact HV7.out k (by omega)
        have p3 : (ends V k : Int) ≤ a0 := by omega
        have p4 : a0 ≤ (ends V k : Int) := by omega
        clear p1 p2
        go_wp2
        go_loop [17] (fun x => ∃ m : Nat, k + 1 ≤ m ∧ m < n ∧ x = .int .i64 m ∧ ∀ j, k + 1 ≤ j → j < m → V j = true) (fun x => n - (intOf x).toNat)
        case atStart => exact ⟨k + 1, Nat.le_refl _, hl, by go_num, fun j h1 h2 => by omega⟩
        case round =>
          obtain ⟨m, hm1, hm2, rfl, hall⟩ := hrel
          have HA : Hid (∀ j, k + 1 ≤ j → j < m → V j = true) := hall
          clear hall
          by_cases hm3 : m + 1 < n
          · cases hv : V m with
            | true =>
              have v2 : w7.cell? ⟨w2.heap.size, m, none⟩ = some (.bool true) := by rw [← hv]; exact HV7.out m hm2
              have HX : Hid (V m = true) := hv
              clear hv
              go_wp2
              go_round
              case rel => exact ⟨m + 1, by omega, hm3, by go_num, fun j h1 h2 => by
                by_cases e : j = m
                · rw [e]; exact HX.out
                · exact HA.out j h1 (by omega)⟩
              case measure => simp [intOf]; omega
            | false =>
              have v2 : w7.cell? ⟨w2.heap.size, m, none⟩ = some (.bool false) := by rw [← hv]; exact HV7.out m hm2
              obtain rfl : y2 = m := next_law HI1.out HI2.out hl hm1 hm2 HA.out (fun _ => hv)
              clear hv
              go_wp2
              go_ret
              exact ⟨by simp, B7⟩
          · obtain rfl : y2 = m := next_law HI1.out HI2.out hl hm1 hm2 HA.out (fun h => absurd h hm3)
            go_wp2
            go_ret
            exact ⟨by simp, B7⟩
      · obtain rfl : y2 = k := last_law HI1.out HI2.out hl
        have p3 : (ends V y2 : Int) ≤ a0 := HI1.out.2.1
        have p5 : (n : Int) - 1 ≤ (y2 : Int) := by omega
        go_wp2
        go_ret
        exact ⟨by simp; omega, B7⟩

end Go.Proofs.Qxb6619264a.InW
