import Derived.Test.Qxb6619264aMx
namespace Go.Proofs.Qxb6619264a.Cl
open Go.RowKit Go.Proofs.Qxb6619264a.W
set_option linter.unusedVariables false

set_option maxRecDepth 10000 in
set_option maxHeartbeats 4000000 in
theorem move_C1_n (gl : Nat) (gc n : Nat) (C : Nat → Int) (B T : Nat) (us sz : Int) (wp : Bool) (cols : Int) (f t c : Nat) (w : World)
    (hl : Line w gl (.slice (some ⟨gc, 0, none⟩) n n) (.map none) us sz wp) (hb : Blk w gc 21 (rowOf (fun i => .int .i32 (C i)) n)) (hgB : B ≤ gc) (hgT : gc < T) (hgl : T ≤ gl) (h0 : 0 ≤ sz) (h1 : sz ≤ 65535) (h4 : cols ≤ 65535) (h5 : -9223372036854775808 ≤ cols) (hc : 1 ≤ c) (hf : f + c ≤ 65535) (ht : t + c ≤ 65535)
    (hfn : f + c ≤ n) (htn : t + c ≤ n) (hn : n ≤ 65536) (hft : t < f) (hx : t + c < f):
    Calls Try.prog 28 #[.pointer (some ⟨gl, 0, none⟩), .int .i64 cols, .int .i64 f, .int .i64 t, .int .i64 c] w fun e w' => e = .returned (.tuple #[]) ∧ Fr (mvS gl B T) w w' ∧ Line w' gl (.slice (some ⟨gc, 0, none⟩) n n) (.map none) (mx us ((t : Int) + c)) (rsv (rsv sz ((f : Int) + c) cols) ((t : Int) + c) cols) wp ∧ Own w' B T 21 (.slice (some ⟨gc, 0, none⟩) n n) false n (fun i => .int .i32 (mvC C f t c i)) := by
  have HL : Hid (Line w gl (.slice (some ⟨gc, 0, none⟩) n n) (.map none) us sz wp) := hl
  have HB : Hid (Blk w gc 21 (rowOf (fun i => .int .i32 (C i)) n)) := hb
  have hne : gl ≠ gc := by omega
  clear hl hb
  have e1 : (0 : Int) ≤ (f : Int) := by omega
  have e2 : (0 : Int) ≤ (t : Int) := by omega
  have e3 : (f : Int) ≤ (f : Int) + (c : Int) := by omega
  have e4 : (t : Int) ≤ (t : Int) + (c : Int) := by omega
  have e5 : (f : Int) + (c : Int) ≤ (n : Int) := by omega
  have e6 : (t : Int) + (c : Int) ≤ (n : Int) := by omega
  go_enter Try.func28, Try.ntmps28
  go_wp2_with fail
  refine (lreserve gl _ _ us sz wp ((f : Int) + c) cols w HL.out h0 h1 (by omega) (by omega) h4 h5).mono ?_
  rintro e w1 ⟨rfl, ho1, hl1⟩
  obtain ⟨r1, r2⟩ := rsv_bd (need := (f : Int) + c) (cols := cols) h0 h1 (by omega) (by omega) h4
  have HL1 : Hid (Line w1 gl (.slice (some ⟨gc, 0, none⟩) n n) (.map none) us (rsv sz ((f : Int) + c) cols) wp) := hl1
  have HO1 : Hid (Only gl w w1) := ho1
  clear hl1 ho1
  go_wp2_with fail
  refine (lwritten gl _ _ us _ wp ((t : Int) + c) cols w1 HL1.out r1 r2 (by omega) (by omega) h4 h5).mono ?_
  rintro e w2 ⟨rfl, ho2, hl2⟩
  have HL2 : Hid (Line w2 gl (.slice (some ⟨gc, 0, none⟩) n n) (.map none) (mx us ((t : Int) + c)) (rsv (rsv sz ((f : Int) + c) cols) ((t : Int) + c) cols) wp) := hl2
  have HO2 : Hid (Only gl w w2) := HO1.out.trans ho2
  clear hl2 ho2 HL1 HO1 r1 r2
  have k0 := HL2.out.c0
  have q1 := fun w => run_neq_slice_nil (P := Try.prog) w 22 21 (some ⟨gc, 0, none⟩) n n Try.underlying22
  obtain ⟨w3, hcp, hb3, ho3⟩ := run_cpRow (P := Try.prog) w2.drew 22 21 (fun i => .int .i32 (C i)) n gc t f c (n - t) (n - f) Try.underlying22 size21 (fun _ => rfl) ((HO2.out.blk (Ne.symm hne) HB.out).drew) (by omega) (by omega)
  obtain ⟨w4, hcl0, hb4, ho4⟩ := run_clRow (P := Try.prog) w3 22 21 (cpF (fun i => .int .i32 (C i)) t f c) (.int .i32 0) n gc (f) (c) (n - (f)) Try.underlying22 zero21 rfl rfl hb3 (by omega)
  have hcl := hcl0 0
  clear hcl0
  have HB4 : Hid (Blk w4 gc 21 (rowOf (fun i => .int .i32 (mvC C f t c i)) n)) := by
    rw [rowOf_congr (F := fun i => Value.int .i32 (mvC C f t c i)) (G := clF (cpF (fun i => .int .i32 (C i)) t f c) (.int .i32 0) (f) (c)) (fun i hi => by
      simp only [clF, cpF, mvC]; repeat' split
      all_goals first | rfl | omega)]
    exact hb4
  have HO4 : Hid (Only gc w2.drew w4) := ho3.trans ho4
  have k3 : w3.cell? ⟨gl, 0, none⟩ = some (.slice (some ⟨gc, 0, none⟩) n n) := (World.cell?_of_block (ho3.block gl hne)).trans k0
  have k1 : w4.cell? ⟨gl, 1, none⟩ = some (.map none) := (World.cell?_of_block (HO4.out.block gl hne)).trans HL2.out.c1
  have HL4 : Hid (Line w4 gl (.slice (some ⟨gc, 0, none⟩) n n) (.map none) (mx us ((t : Int) + c)) (rsv (rsv sz ((f : Int) + c) cols) ((t : Int) + c) cols) wp) := HL2.out.fr (Fr.ofOnly (show Only gc w2 w4 from ⟨HO4.out.os, HO4.out.tape, HO4.out.output, HO4.out.size, HO4.out.block⟩)) hne
  have FR4 : Hid (Fr (mvS gl B T) w w4) := ((Fr.ofOnly HO2.out).mono (fun k _ h => .inl h)).trans ((Fr.ofOnly (show Only gc w2 w4 from ⟨HO4.out.os, HO4.out.tape, HO4.out.output, HO4.out.size, HO4.out.block⟩)).mono (fun k _ h => .inr (by omega)))
  have HC4 : Hid (Own w4 B T 21 (.slice (some ⟨gc, 0, none⟩) n n) false n (fun i => .int .i32 (mvC C f t c i))) := .inr ⟨rfl, gc, hgB, hgT, rfl, HB4.out⟩
  have z1 : t + c - t = c := by omega
  have z2 : f + c - f = c := by omega
  clear hb3 ho3 hb4 ho4
  go_wp2
  go_region
  have q3 := fun w => run_eql_map_nil (P := Try.prog) w 52 3 22 none Try.underlying52
  go_wp2
  refine bodyPost_ret (results_none rfl _ _ _) rfl ?_
  exact ⟨rfl, FR4.out, HL4.out, HC4.out⟩

set_option maxRecDepth 10000 in
set_option maxHeartbeats 4000000 in
theorem move_C1_m (gl : Nat) (gc n : Nat) (C : Nat → Int) (B T : Nat) (gm nk : Nat) (D : DataW Value) (F : Int → Option Value) (us sz : Int) (wp : Bool) (cols : Int) (f t c : Nat) (w : World)
    (hl : Line w gl (.slice (some ⟨gc, 0, none⟩) n n) (.map (some gm)) us sz wp) (hb : Blk w gc 21 (rowOf (fun i => .int .i32 (C i)) n)) (hgB : B ≤ gc) (hgT : gc < T) (hgl : T ≤ gl) (hm : MapIs w gm nk D) (hT : Tie D F) (hgm : T ≤ gm) (hgm2 : gm ≠ gl) (hnk : nk ≤ 65536) (h0 : 0 ≤ sz) (h1 : sz ≤ 65535) (h4 : cols ≤ 65535) (h5 : -9223372036854775808 ≤ cols) (hc : 1 ≤ c) (hf : f + c ≤ 65535) (ht : t + c ≤ 65535)
    (hfn : f + c ≤ n) (htn : t + c ≤ n) (hn : n ≤ 65536) (hft : t < f) (hx : t + c < f):
    Calls Try.prog 28 #[.pointer (some ⟨gl, 0, none⟩), .int .i64 cols, .int .i64 f, .int .i64 t, .int .i64 c] w fun e w' => e = .returned (.tuple #[]) ∧ Fr (mvS gl B T) w w' ∧ ∃ g' D', w.heap.size ≤ g' ∧ g' < w'.heap.size ∧ Line w' gl (.slice (some ⟨gc, 0, none⟩) n n) (.map (some g')) (mx us ((t : Int) + c)) (rsv (rsv sz ((f : Int) + c) cols) ((t : Int) + c) cols) wp ∧
      MapIs w' g' nk D' ∧ Tie D' (mvM F f t c) ∧ Own w' B T 21 (.slice (some ⟨gc, 0, none⟩) n n) false n (fun i => .int .i32 (mvC C f t c i)) := by
  have HL : Hid (Line w gl (.slice (some ⟨gc, 0, none⟩) n n) (.map (some gm)) us sz wp) := hl
  have HB : Hid (Blk w gc 21 (rowOf (fun i => .int .i32 (C i)) n)) := hb
  have hne : gl ≠ gc := by omega
  clear hl hb
  have HM : Hid (MapIs w gm nk D) := hm
  have HT : Hid (Tie D F) := hT
  clear hm hT
  have e1 : (0 : Int) ≤ (f : Int) := by omega
  have e2 : (0 : Int) ≤ (t : Int) := by omega
  have e3 : (f : Int) ≤ (f : Int) + (c : Int) := by omega
  have e4 : (t : Int) ≤ (t : Int) + (c : Int) := by omega
  have e5 : (f : Int) + (c : Int) ≤ (n : Int) := by omega
  have e6 : (t : Int) + (c : Int) ≤ (n : Int) := by omega
  go_enter Try.func28, Try.ntmps28
  go_wp2_with fail
  refine (lreserve gl _ _ us sz wp ((f : Int) + c) cols w HL.out h0 h1 (by omega) (by omega) h4 h5).mono ?_
  rintro e w1 ⟨rfl, ho1, hl1⟩
  obtain ⟨r1, r2⟩ := rsv_bd (need := (f : Int) + c) (cols := cols) h0 h1 (by omega) (by omega) h4
  have HL1 : Hid (Line w1 gl (.slice (some ⟨gc, 0, none⟩) n n) (.map (some gm)) us (rsv sz ((f : Int) + c) cols) wp) := hl1
  have HO1 : Hid (Only gl w w1) := ho1
  clear hl1 ho1
  go_wp2_with fail
  refine (lwritten gl _ _ us _ wp ((t : Int) + c) cols w1 HL1.out r1 r2 (by omega) (by omega) h4 h5).mono ?_
  rintro e w2 ⟨rfl, ho2, hl2⟩
  have HL2 : Hid (Line w2 gl (.slice (some ⟨gc, 0, none⟩) n n) (.map (some gm)) (mx us ((t : Int) + c)) (rsv (rsv sz ((f : Int) + c) cols) ((t : Int) + c) cols) wp) := hl2
  have HO2 : Hid (Only gl w w2) := HO1.out.trans ho2
  clear hl2 ho2 HL1 HO1 r1 r2
  have k0 := HL2.out.c0
  have q1 := fun w => run_neq_slice_nil (P := Try.prog) w 22 21 (some ⟨gc, 0, none⟩) n n Try.underlying22
  obtain ⟨w3, hcp, hb3, ho3⟩ := run_cpRow (P := Try.prog) w2.drew 22 21 (fun i => .int .i32 (C i)) n gc t f c (n - t) (n - f) Try.underlying22 size21 (fun _ => rfl) ((HO2.out.blk (Ne.symm hne) HB.out).drew) (by omega) (by omega)
  obtain ⟨w4, hcl0, hb4, ho4⟩ := run_clRow (P := Try.prog) w3 22 21 (cpF (fun i => .int .i32 (C i)) t f c) (.int .i32 0) n gc (f) (c) (n - (f)) Try.underlying22 zero21 rfl rfl hb3 (by omega)
  have hcl := hcl0 0
  clear hcl0
  have HB4 : Hid (Blk w4 gc 21 (rowOf (fun i => .int .i32 (mvC C f t c i)) n)) := by
    rw [rowOf_congr (F := fun i => Value.int .i32 (mvC C f t c i)) (G := clF (cpF (fun i => .int .i32 (C i)) t f c) (.int .i32 0) (f) (c)) (fun i hi => by
      simp only [clF, cpF, mvC]; repeat' split
      all_goals first | rfl | omega)]
    exact hb4
  have HO4 : Hid (Only gc w2.drew w4) := ho3.trans ho4
  have k3 : w3.cell? ⟨gl, 0, none⟩ = some (.slice (some ⟨gc, 0, none⟩) n n) := (World.cell?_of_block (ho3.block gl hne)).trans k0
  have k1 : w4.cell? ⟨gl, 1, none⟩ = some (.map (some gm)) := (World.cell?_of_block (HO4.out.block gl hne)).trans HL2.out.c1
  have HL4 : Hid (Line w4 gl (.slice (some ⟨gc, 0, none⟩) n n) (.map (some gm)) (mx us ((t : Int) + c)) (rsv (rsv sz ((f : Int) + c) cols) ((t : Int) + c) cols) wp) := HL2.out.fr (Fr.ofOnly (show Only gc w2 w4 from ⟨HO4.out.os, HO4.out.tape, HO4.out.output, HO4.out.size, HO4.out.block⟩)) hne
  have FR4 : Hid (Fr (mvS gl B T) w w4) := ((Fr.ofOnly HO2.out).mono (fun k _ h => .inl h)).trans ((Fr.ofOnly (show Only gc w2 w4 from ⟨HO4.out.os, HO4.out.tape, HO4.out.output, HO4.out.size, HO4.out.block⟩)).mono (fun k _ h => .inr (by omega)))
  have HC4 : Hid (Own w4 B T 21 (.slice (some ⟨gc, 0, none⟩) n n) false n (fun i => .int .i32 (mvC C f t c i))) := .inr ⟨rfl, gc, hgB, hgT, rfl, HB4.out⟩
  have z1 : t + c - t = c := by omega
  have z2 : f + c - f = c := by omega
  clear hb3 ho3 hb4 ho4
  go_wp2
  go_region
  have q3 := fun w => run_eql_map_nil (P := Try.prog) w 52 3 22 (some gm) Try.underlying52
  have q4 := fun w n => run_mkMap (P := Try.prog) 52 w 3 22 Try.underlying52 n
  have HM4 : Hid (w4.ownsMap Try.prog 3 tokR gm nk D) := MapIs.fr HM.out FR4.out (by intro h; unfold mvS at h; omega)
  have e1 : (w4.alloc (.map #[] 0)).heap.size = w4.heap.size + 1 := by simp
  have kA := Lib.cell?_alloc_some (.map #[] 0) k1
  go_wp2_with (first
    | (at_len; refine wpList_len_own _ rfl _ 52 rfl 3 22 Try.underlying52 tokR gm nk D rfl HM4.out ?_)
    | (at_range; refine wpList_range_own _ rfl _ 52 rfl 3 22 law3 Try.underlying52 tokR gm nk D rfl (World.ownsMap.alloc HM4.out _) ?_; intro w5 hrg0 hg0 hs0))
  try go_frame
  rw [e1] at hrg0 hs0 ⊢
  have hsz : w.heap.size ≤ w4.heap.size := FR4.out.size
  have hgm : gm < w4.heap.size := World.ownsMap.lt HM4.out
  have hgl : gl < w4.heap.size := Blk.lt HL4.out
  clear k0 k1 kA
  go_loopw [11] (fun _ wr => ∃ (left : Lit → Bool) (cnt : Nat) (D' : DataW Value), wr.ranges Try.prog 3 tokR gm (w4.heap.size + 1) nk D left cnt ∧ cnt ≤ Maps.size D ∧ MapIs wr w4.heap.size (Maps.size D - cnt) D' ∧ Tie D' (mvL F left f t c) ∧ Below w4.heap.size w4 wr)
    (fun _ wr => wr.rangeLeft gm (w4.heap.size + 1))
  case atStart =>
    exact ⟨_, _, .map [], hrg0, Nat.le_refl _, ((World.ownsMap_made _ _ _ _).kept hg0 (by simp)).mono (Nat.zero_le _), Tie.empty.congr (fun y => (mvL_start HT.out f t c y).symm), ((Below.refl _ _).alloc (Nat.le_refl _) _).grown hg0 (by simp) (fun j hj => by cases hj)⟩
  case round =>
    obtain ⟨left, cnt, D', hrg, hcs, hout, hA, hnx⟩ := hrel
    have HOUT : Hid (wr.ownsMap Try.prog 3 tokR w4.heap.size (Maps.size D - cnt) D') := hout
    have HA : Hid (Tie D' (mvL F left f t c)) := hA
    have hsl : Maps.size D ≤ nk := MapIs.size_le HM.out
    clear hout hA hrg0 hg0 hs0
    go_wp2_with (at_next; refine wpList_nx _ rfl _ rfl gm (w4.heap.size + 1) nk D F left cnt rfl hrg HT.out ?_ ?_)
    · intro hc0 hl0
      have HLr := Line.fr HL4.out (Fr.ofBelow (S := fun _ => False) hnx) (fun h => h)
      have ks := HLr.c1
      have kf := HLr.fz 1
      have HLr' : Hid (Line wr gl (.slice (some ⟨gc, 0, none⟩) n n) (.map (some gm)) (mx us ((t : Int) + c)) (rsv (rsv sz ((f : Int) + c) cols) ((t : Int) + c) cols) wp) := HLr
      clear HLr
      go_wp2
      go_end0
      refine ⟨rfl, ?_, w4.heap.size, D', hsz, ?_, HLr'.out.s1 _, ?_, HA.out.congr (mvL_end F hl0 f t c), ?_⟩
      · exact (FR4.out.trans (Fr.ofBelow hnx)).setCell (p := ⟨gl, 1, none⟩) (.inl rfl) _
      · have := World.ownsMap.lt HOUT.out; simpa [World.setCell] using this
      · exact (MapIs.fr (World.ownsMap.mono HOUT.out (n' := nk) (by omega)) (Fr.ofOnly (only_set wr gl 1 _)) (by omega))
      · exact ((HC4.out.below hnx)).fr (Fr.ofOnly (only_set wr gl 1 _)) (fun j h1 h2 => by omega)
    · intro x v w6 cnt1 hwx hFx hrg1 hlt hg1 hs1 hen
      obtain ⟨bx0, bx1⟩ := wf64 hwx
      have HO6 : Hid (w6.ownsMap Try.prog 3 tokR w4.heap.size (Maps.size D - cnt) D') := World.ownsMap.kept HOUT.out hg1 (by simp)
      have HX : Hid (F x = some v) := hFx
      have HG1 : Hid (wr.grownBy w6 (some (w4.heap.size + 1))) := hg1
      have hlt1 : cnt1 < cnt := hlt
      have B6 : Below w4.heap.size w4 w6 := hnx.grown hg1 hnx.size (fun j hj => by cases hj; exact Nat.le_succ _)
      have HRG1 : Hid (w6.ranges Try.prog 3 tokR gm (w4.heap.size + 1) nk D (fun z => left z && !z.sameKey (.int .i64 x)) cnt1) := hrg1
      have s6 : w4.heap.size ≤ w6.heap.size := B6.size
      clear hFx hg1 hrg1 hs1 hnx
      by_cases hin : (f : Int) ≤ x ∧ x < (f : Int) + c
      · obtain ⟨i1, i2⟩ := hin
        go_wp2_with (at_mapUpdate; refine wpList_mapUpdate_own _ rfl _ _ _ 52 rfl 3 22 law3 Try.underlying52 tokR w4.heap.size _ D' rfl HO6.out (by unfold maxLen; omega) _ _ (.int .i64 (x - f + t)) rfl rfl (key3 (wf64mk (by omega) (by omega))) (.held v) [] rfl ?_; intro w7 hout7 hg7; try go_frame)
        have hrg7 := HRG1.out.kept hg7 (fun e => by have := Option.some.inj e; omega) (fun e => by have := Option.some.inj e; omega)
        go_roundw
        case rel => exact ⟨_, cnt1, _, hrg7, by omega, World.ownsMap.mono hout7 (by omega), (HA.out.put (World.ownsMap.isMap HO6.out) _ _).congr (mvL_put (src_dest1 i1 i2) HX.out), B6.grown hg7 s6 (fun j hj => by cases hj; exact Nat.le_refl _)⟩
        case measure => rw [hrg7.left_eq, hrg.left_eq]; exact hlt1
      · by_cases i3 : x < t
        · rcases (show x < f ∨ (f : Int) + c ≤ x by omega) with i1 | i1
          all_goals
            first
              | (exfalso; omega)
              | (go_wp2_with (at_mapUpdate; refine wpList_mapUpdate_own _ rfl _ _ _ 52 rfl 3 22 law3 Try.underlying52 tokR w4.heap.size _ D' rfl HO6.out (by unfold maxLen; omega) _ _ (.int .i64 x) rfl rfl (key3 hwx) (.held v) [] rfl ?_; intro w7 hout7 hg7; try go_frame)
                 have hrg7 := HRG1.out.kept hg7 (fun e => by have := Option.some.inj e; omega) (fun e => by have := Option.some.inj e; omega)
                 go_roundw
                 case rel => exact ⟨_, cnt1, _, hrg7, by omega, World.ownsMap.mono hout7 (by omega), (HA.out.put (World.ownsMap.isMap HO6.out) _ _).congr (mvL_put (src_dest2 hin (.inl i3)) HX.out), B6.grown hg7 s6 (fun j hj => by cases hj; exact Nat.le_refl _)⟩
                 case measure => rw [hrg7.left_eq, hrg.left_eq]; exact hlt1)
        · by_cases i4 : (t : Int) + c ≤ x
          · rcases (show x < f ∨ (f : Int) + c ≤ x by omega) with i1 | i1
            all_goals
              first
                | (exfalso; omega)
                | (go_wp2_with (at_mapUpdate; refine wpList_mapUpdate_own _ rfl _ _ _ 52 rfl 3 22 law3 Try.underlying52 tokR w4.heap.size _ D' rfl HO6.out (by unfold maxLen; omega) _ _ (.int .i64 x) rfl rfl (key3 hwx) (.held v) [] rfl ?_; intro w7 hout7 hg7; try go_frame)
                   have hrg7 := HRG1.out.kept hg7 (fun e => by have := Option.some.inj e; omega) (fun e => by have := Option.some.inj e; omega)
                   go_roundw
                   case rel => exact ⟨_, cnt1, _, hrg7, by omega, World.ownsMap.mono hout7 (by omega), (HA.out.put (World.ownsMap.isMap HO6.out) _ _).congr (mvL_put (src_dest2 hin (.inr i4)) HX.out), B6.grown hg7 s6 (fun j hj => by cases hj; exact Nat.le_refl _)⟩
                   case measure => rw [hrg7.left_eq, hrg.left_eq]; exact hlt1)
          · rcases (show x < f ∨ (f : Int) + c ≤ x by omega) with i1 | i1
            all_goals
              first
                | (exfalso; omega)
                | (go_wp2
                   go_roundw
                   case rel => exact ⟨_, cnt1, _, HRG1.out, by omega, World.ownsMap.mono HO6.out (by omega), HA.out.congr (mvL_drop (src_none hin (by omega))), B6⟩
                   case measure => rw [HRG1.out.left_eq, hrg.left_eq]; exact hlt1)

end Go.Proofs.Qxb6619264a.Cl
