import Derived.Test.Qxb6619264aTa
namespace Go.Proofs.Qxb6619264a.Cl
open Go.RowKit Go.Proofs.Qxb6619264a.W
set_option linter.unusedVariables false

set_option maxRecDepth 10000 in
set_option maxHeartbeats 4000000 in
theorem take_YB (gl gf g1 N T : Nat) (C : Nat → Int) (bf nk : Nat) (D : DataW Value) (F : Int → Option Value) (ax : Addr) (mm cc : Nat) (us sz : Int) (wp : Bool) (cols : Int) (k : Nat) (n : Nat) (w : World)
    (hl : Line w gl (.slice none 0 0) (.map none) us sz wp) (hk0 : k = 0) (hcz : cols = n) (hn1 : 1 ≤ n) (hn : n ≤ 65536) 
    (hf : Line w gf (.slice (some ⟨g1, 0, none⟩) N N) (.map (some bf)) 0 0 false) (hb1 : Blk w g1 21 (rowOf (fun i => .int .i32 (C i)) N)) (hkN : k < N) (hN : N ≤ 65535)
    (tl : gl < T) (tf : gf < T) (t1 : g1 < T) (nlf : gl ≠ gf) (nl1 : gl ≠ g1) (hT : T ≤ w.heap.size)
    (hm : MapIs w bf nk D) (hTi : Tie D F) (tbf : bf < T) (nbf : bf ≠ gl) (hF : F (k : Int) = some (.slice (some ax) mm cc))
    (h0 : 0 ≤ sz) (h1 : sz ≤ 65535) (h4 : cols ≤ 65535) (h5 : -9223372036854775808 ≤ cols) :
    Calls Try.prog 30 #[.pointer (some ⟨gl, 0, none⟩), .pointer (some ⟨gf, 0, none⟩), .int .i64 k, .int .i64 k, .int .i64 cols] w fun e w' => e = .returned (.tuple #[]) ∧ Fr (tkS gl T) w w' ∧
      ∃ g' cap' m, (m = n ∧ k < m ∨ n = k ∧ m = k + 1) ∧ Row w' T g' cap' m (fillR C (k + 1)) ∧ (g' = w.heap.size ∨ w.heap.size ≤ g') ∧ ∃ b' D', T ≤ b' ∧ b' ≠ g' ∧ Line w' gl (.slice (some ⟨g', 0, none⟩) m cap') (.map (some b')) (mx us ((k : Int) + 1)) (rsv sz ((k : Int) + 1) cols) wp ∧ MapIs w' b' 1 D' ∧ Tie D' (upF (fun _ => none) (k : Int) (.slice (some ax) mm cc)) := by
  have HL : Hid (Line w gl (.slice none 0 0) (.map none) us sz wp) := hl
  have q1 := fun w => Lib.run_eql_slice_nil (P := Try.prog) w 22 21 none 0 0 0 0 Try.underlying22
  have HF : Hid (Line w gf (.slice (some ⟨g1, 0, none⟩) N N) (.map (some bf)) 0 0 false) := hf
  have HB1 : Hid (Blk w g1 21 (rowOf (fun i => .int .i32 (C i)) N)) := hb1
  have k0 := hl.c0
  clear hl hf hb1
  have HM : Hid (MapIs w bf nk D) := hm
  have HT : Hid (Tie D F) := hTi
  have HFk : Hid ((F (k : Int)).getD (.slice none 0 0) = .slice (some ax) mm cc) := by rw [Hid, hF]; rfl
  clear hm hTi hF
  obtain ⟨i0, hi, hz0, hz1, hz2⟩ := info_parts info21
  have I0 : Hid (Try.prog.info? 21 = some i0 ∧ i0.zero = some (.int .i32 0) ∧ i0.size = 1 ∧ i0.bytes = 4) := ⟨hi, hz0, hz1, hz2⟩
  clear hi hz0 hz1 hz2
  subst hcz
  subst hk0
  go_enter Try.func30, Try.ntmps30
  go_wp2_with (at_make; refine wpList_mk _ rfl _ _ 22 rfl 21 (.int .i32 0) 1 4 Try.underlying22 info21 _ _ _ _ (n) rfl rfl rfl rfl (by omega) (by unfold maxLen; omega) ?_; intro w1 hb1 hbel1 hs1; have HB0 : Hid (Blk w1 w.heap.size 21 (rowOf (fillR C 0) (n))) := (by rw [Hid, rowOf_congr (F := fillR C 0) (G := fun _ => .int .i32 0) (fun i _ => by simp [fillR]), ← toList_made_rowOf _ _ rfl]; exact hb1); have HL1 : Hid (Line w1 gl (.slice none 0 0) (.map none) us sz wp) := HL.out.fr (Fr.ofBelow (S := fun _ => False) hbel1) (fun h => h); have kc1 := HL1.out.c0; have kf1 := HL1.out.fz 0; clear hb1)
  have hglw : gl < w.heap.size := by omega
  go_loopw [30] (fun _ wr => ∃ gg pp m, Line wr gl (.slice (some ⟨gg, 0, none⟩) m pp) (.map none) us sz wp ∧ Row wr T gg pp m (fillR C 0) ∧ Fr (tkS gl T) w wr ∧ 0 ≤ m ∧ (m = n ∨ (n = 0 ∧ m = 0 + 1)) ∧ (gg = w.heap.size ∨ w.heap.size ≤ gg) ∧ True) (fun _ wr => 0 + 1 - lenAt wr gl)
  case atStart => exact ⟨w.heap.size, n, n, HL1.out.s0 _, (Row.ofBlk hT (by unfold maxLen; omega) HB0.out).fr (Fr.ofOnly (only_set w1 gl 0 _)) (by omega), (Fr.ofBelow hbel1).setCell (p := ⟨gl, 0, none⟩) (.inl rfl) _, Nat.zero_le _, .inl rfl, .inl rfl, trivial⟩
  case round =>
    obtain ⟨g', cap', m, hl, hr, hfr, hkm, hm, hgo, hex⟩ := hrel
    have HEX : Hid (True) := hex
    have HLr : Hid (Line wr gl (.slice (some ⟨g', 0, none⟩) m cap') (.map none) us sz wp) := hl
    have HRr : Hid (Row wr T g' cap' m (fillR C 0)) := hr
    have HM2 : Hid (m = n ∨ (n = 0 ∧ m = 0 + 1)) := hm
    have HGO : Hid (g' = w.heap.size ∨ w.heap.size ≤ g') := hgo
    have k0r := hl.c0
    have kfr := hl.fz 0
    have k1r := hl.c1
    have kf1r := hl.fz 1
    clear hl hr hm hgo hex k0
    by_cases hkm2 : m ≤ 0
    · exfalso
      rcases HM2.out with h | h <;> omega
    · have HFr : Hid (Line wr gf (.slice (some ⟨g1, 0, none⟩) N N) (.map (some bf)) 0 0 false) := HF.out.fr hfr (by intro h; unfold tkS at h; omega)
      have HB1r : Hid (Blk wr g1 21 (rowOf (fun i => .int .i32 (C i)) N)) := hfr.blk (by intro h; unfold tkS at h; omega) HB1.out
      have htg : T ≤ g' := HRr.out.1
      have hgw := HRr.out.lt
      have hTr : T ≤ wr.heap.size := Nat.le_trans hT hfr.size
      have hlg : gl < wr.heap.size := Blk.lt HLr.out
      have f0 := HFr.out.c0
      have f1 := HFr.out.c1
      have d1 : wr.cell? ⟨g1, 0, none⟩ = some (.int .i32 (C 0)) := by rw [HB1r.out.cell, rowOf_get _ hkN]
      have d2 : wr.cell? ⟨g', 0, none⟩ = some (.int .i32 0) := by rw [HRr.out.cell (by omega)]; simp [fillR]
      have d3 : wr.frozen? ⟨g', 0, none⟩ = false := HRr.out.frozen 0
      have x1 : (0 : Int) ≤ (0 : Int) := by omega
      have x2 : (0 : Int) < (m : Int) := by omega
      have x3 : (0 : Int) < (N : Int) := by omega
      have F1 : Fr (fun j => j = g') wr ((wr.setCell ⟨g', 0, none⟩ (.int .i32 (C 0))).drew) := (Fr.ofOnly (only_set wr g' 0 _)).drew
      have HR1 : Hid (Row ((wr.setCell ⟨g', 0, none⟩ (.int .i32 (C 0))).drew) T g' cap' m (fillR C (0 + 1))) := HRr.out.set (G := fillR C (0 + 1)) (fun i hi he => by unfold fillR; by_cases e : i < 0 <;> simp [e] <;> omega) (fun _ => by simp [fillR])
      have HL1' : Hid (Line ((wr.setCell ⟨g', 0, none⟩ (.int .i32 (C 0))).drew) gl (.slice (some ⟨g', 0, none⟩) m cap') (.map none) us sz wp) := HLr.out.fr F1 (by omega)
      have hfr1 : Fr (tkS gl T) w ((wr.setCell ⟨g', 0, none⟩ (.int .i32 (C 0))).drew) := hfr.trans (F1.mono (fun j _ h => .inr (by omega)))
      have hfr0 : Fr (tkS gl T) w (wr.setCell ⟨g', 0, none⟩ (.int .i32 (C 0))) := hfr.setCell (p := ⟨g', 0, none⟩) (.inr htg) _
      have HMF : Hid (m = n ∧ 0 < m ∨ n = 0 ∧ m = 0 + 1) := by
        rcases HM2.out with h | h
        · exact .inl ⟨h, by omega⟩
        · exact .inr h
      clear hfr
      have HMX : Hid (MapIs ((wr.setCell ⟨g', 0, none⟩ (.int .i32 (C 0))).drew) bf nk D) := MapIs.fr HM.out hfr1 (by intro h; unfold tkS at h; omega)
      have q2 := run_look HMX.out HT.out (x := (0 : Int)) (WalkArith.wf_i64 ⟨by omega, by omega⟩) _ HFk.out
      have q3 := fun w => run_neq_slice_nil (P := Try.prog) w 22 21 (some ax) mm cc Try.underlying22
      have q4 := fun w => run_eql_map_nil (P := Try.prog) w 52 3 22 none Try.underlying52
      have q5 := fun w => run_makeMap (P := Try.prog) 52 w
      have HLB : Hid (Line ((((wr.setCell ⟨g', 0, none⟩ (.int .i32 (C 0))).setCell ⟨gl, 1, none⟩ (.map (some wr.heap.size))).alloc (.map #[] 0)).drew) gl (.slice (some ⟨g', 0, none⟩) m cap') (.map (some wr.heap.size)) us sz wp) := Blk.drew (Blk.alloc (Line.s1 (HLr.out.fr (Fr.ofOnly (only_set wr g' 0 _)) (by omega)) _) _)
      have HRn : Hid (Row (wr.setCell ⟨g', 0, none⟩ (.int .i32 (C 0))) T g' cap' m (fillR C (0 + 1))) := HR1.out
      have HRB : Hid (Row ((((wr.setCell ⟨g', 0, none⟩ (.int .i32 (C 0))).setCell ⟨gl, 1, none⟩ (.map (some wr.heap.size))).alloc (.map #[] 0)).drew) T g' cap' m (fillR C (0 + 1))) := (HRn.out.fr (Fr.ofOnly (only_set (wr.setCell ⟨g', 0, none⟩ (.int .i32 (C 0))) gl 1 (.map (some wr.heap.size)))) (show ¬ g' = gl by omega)).fr ((Fr.refl (fun _ => False) _).alloc (.map #[] 0)).drew (fun h => h)
      have hfrB : Fr (tkS gl T) w ((((wr.setCell ⟨g', 0, none⟩ (.int .i32 (C 0))).setCell ⟨gl, 1, none⟩ (.map (some wr.heap.size))).alloc (.map #[] 0)).drew) := ((hfr0.setCell (p := ⟨gl, 1, none⟩) (.inl rfl) (.map (some wr.heap.size))).alloc (.map #[] 0)).drew
      have HMB : Hid (World.ownsMap ((((wr.setCell ⟨g', 0, none⟩ (.int .i32 (C 0))).setCell ⟨gl, 1, none⟩ (.map (some wr.heap.size))).alloc (.map #[] 0)).drew) Try.prog 3 tokR wr.heap.size 0 (.map [])) := by
        have h := World.ownsMap_made ((wr.setCell ⟨g', 0, none⟩ (.int .i32 (C 0))).setCell ⟨gl, 1, none⟩ (.map (some wr.heap.size))) Try.prog 3 tokR
        rw [show ((wr.setCell ⟨g', 0, none⟩ (.int .i32 (C 0))).setCell ⟨gl, 1, none⟩ (.map (some wr.heap.size))).heap.size = wr.heap.size from by simp [World.setCell]] at h
        exact h
      go_wp2
      go_region
      go_wp2_with (at_mapUpdate; refine wpList_mapUpdate_own _ rfl _ _ _ 52 rfl 3 22 law3 Try.underlying52 tokR wr.heap.size 0 (.map []) rfl HMB.out (by unfold maxLen; omega) _ _ (.int .i64 (0 : Int)) rfl rfl (key3 (WalkArith.wf_i64 ⟨by omega, by omega⟩)) (.held (.slice (some ax) mm cc)) [] rfl ?_; intro w7 hm7 hg7; try go_frame)
      have HW7 : Hid (Fr (fun j => j = wr.heap.size) ((((wr.setCell ⟨g', 0, none⟩ (.int .i32 (C 0))).setCell ⟨gl, 1, none⟩ (.map (some wr.heap.size))).alloc (.map #[] 0)).drew) w7) := (Fr.refl _ _).grown hg7 (fun j hj => by simpa using hj.symm)
      have HM7 : Hid (MapIs w7 wr.heap.size (0 + 1) ((DataW.map []).put (.int .i64 (0 : Int)) (.held (.slice (some ax) mm cc)))) := hm7
      have HT7 : Hid (Tie ((DataW.map []).put (.int .i64 (0 : Int)) (.held (.slice (some ax) mm cc))) (upF (fun _ => none) (0 : Int) (.slice (some ax) mm cc))) := Tie.empty.put Maps.isMap_empty _ _
      have HL7 : Hid (Line w7 gl (.slice (some ⟨g', 0, none⟩) m cap') (.map (some wr.heap.size)) us sz wp) := HLB.out.fr HW7.out (by omega)
      have HR7 : Hid (Row w7 T g' cap' m (fillR C (0 + 1))) := HRB.out.fr HW7.out (by omega)
      clear hg7 hm7
      go_wp2_with fail
      refine (lwritten gl _ _ us sz wp (1 : Int) (n : Int) w7 HL7.out h0 h1 (by omega) (by omega) h4 h5).mono ?_
      rintro e w9 ⟨rfl, ho9, hl9⟩
      have HO9 : Hid (Only gl w7 w9) := ho9
      have HL9 : Hid (Line w9 gl (.slice (some ⟨g', 0, none⟩) m cap') (.map (some wr.heap.size)) (mx us (1 : Int)) (rsv sz (1 : Int) (n : Int)) wp) := hl9
      clear ho9 hl9
      go_wp2
      go_end0
      exact ⟨rfl, (hfrB.trans (HW7.out.mono (fun j _ h => .inr (by omega)))).trans ((Fr.ofOnly HO9.out).mono (fun j _ h => .inl h)), g', cap', m, HMF.out, HR7.out.fr (Fr.ofOnly HO9.out) (by omega), HGO.out, wr.heap.size, _, by omega, by omega, HL9.out, MapIs.fr HM7.out (Fr.ofOnly HO9.out) (by omega), HT7.out⟩

end Go.Proofs.Qxb6619264a.Cl
