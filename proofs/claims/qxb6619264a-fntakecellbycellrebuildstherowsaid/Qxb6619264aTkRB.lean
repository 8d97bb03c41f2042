import Derived.Test.Qxb6619264aTa
namespace Go.Proofs.Qxb6619264a.Cl
open Go.RowKit Go.Proofs.Qxb6619264a.W
set_option linter.unusedVariables false

set_option maxRecDepth 10000 in
set_option maxHeartbeats 4000000 in
theorem take_RB (gl gf g1 N T : Nat) (C : Nat → Int) (bf nk : Nat) (D : DataW Value) (F : Int → Option Value) (ax : Addr) (mm cc : Nat) (us sz : Int) (wp : Bool) (cols : Int) (k : Nat) (g cap n : Nat) (w : World)
    (hl : Line w gl (.slice (some ⟨g, 0, none⟩) n cap) (.map none) us sz wp) (hr : Row w T g cap n (fillR C k)) (hkn : k ≤ n) (hn : n ≤ 65536) 
    (hf : Line w gf (.slice (some ⟨g1, 0, none⟩) N N) (.map (some bf)) 0 0 false) (hb1 : Blk w g1 21 (rowOf (fun i => .int .i32 (C i)) N)) (hkN : k < N) (hN : N ≤ 65535)
    (tl : gl < T) (tf : gf < T) (t1 : g1 < T) (nlf : gl ≠ gf) (nl1 : gl ≠ g1) (hT : T ≤ w.heap.size)
    (hm : MapIs w bf nk D) (hTi : Tie D F) (tbf : bf < T) (nbf : bf ≠ gl) (hF : F (k : Int) = some (.slice (some ax) mm cc))
    (h0 : 0 ≤ sz) (h1 : sz ≤ 65535) (h4 : cols ≤ 65535) (h5 : -9223372036854775808 ≤ cols) :
    Calls Try.prog 30 #[.pointer (some ⟨gl, 0, none⟩), .pointer (some ⟨gf, 0, none⟩), .int .i64 k, .int .i64 k, .int .i64 cols] w fun e w' => e = .returned (.tuple #[]) ∧ Fr (tkS gl T) w w' ∧
      ∃ g' cap' m, (m = n ∧ k < m ∨ n = k ∧ m = k + 1) ∧ Row w' T g' cap' m (fillR C (k + 1)) ∧ (g' = g ∨ w.heap.size ≤ g') ∧ ∃ b' D', T ≤ b' ∧ b' ≠ g' ∧ Line w' gl (.slice (some ⟨g', 0, none⟩) m cap') (.map (some b')) (mx us ((k : Int) + 1)) (rsv sz ((k : Int) + 1) cols) wp ∧ MapIs w' b' 1 D' ∧ Tie D' (upF (fun _ => none) (k : Int) (.slice (some ax) mm cc)) := by
  have HL : Hid (Line w gl (.slice (some ⟨g, 0, none⟩) n cap) (.map none) us sz wp) := hl
  have HR : Hid (Row w T g cap n (fillR C k)) := hr
  clear hr
  have q1 := fun w => Lib.run_eql_slice_nil (P := Try.prog) w 22 21 (some ⟨g, 0, none⟩) n cap 0 0 Try.underlying22
  have HF : Hid (Line w gf (.slice (some ⟨g1, 0, none⟩) N N) (.map (some bf)) 0 0 false) := hf
  have HB1 : Hid (Blk w g1 21 (rowOf (fun i => .int .i32 (C i)) N)) := hb1
  have k0 := hl.c0
  clear hl hf hb1
  have HM : Hid (MapIs w bf nk D) := hm
  have HT : Hid (Tie D F) := hTi
  have HFk : Hid ((F (k : Int)).getD (.slice none 0 0) = .slice (some ax) mm cc) := by rw [Hid, hF]; rfl
  clear hm hTi hF
  obtain ⟨i0, hi, hz0, hz1, hz2⟩ := info_parts info21
  have I0 : Hid (Try.prog.info? 21 = some i0 ∧ i0.zero = some (.int .i32 0) ∧ i0.size = 1 ∧ i0.bytes = 4) := ⟨hi, hz0, hz1, hz2⟩
  clear hi hz0 hz1 hz2
  go_enter Try.func30, Try.ntmps30
  go_wp2
  go_loopw [30] (fun _ wr => ∃ gg pp m, Line wr gl (.slice (some ⟨gg, 0, none⟩) m pp) (.map none) us sz wp ∧ Row wr T gg pp m (fillR C k) ∧ Fr (tkS gl T) w wr ∧ k ≤ m ∧ (m = n ∨ (n = k ∧ m = k + 1)) ∧ (gg = g ∨ w.heap.size ≤ gg) ∧ True) (fun _ wr => k + 1 - lenAt wr gl)
  case atStart => exact ⟨g, cap, n, HL.out, HR.out, Fr.refl _ _, hkn, .inl rfl, .inl rfl, trivial⟩
  case round =>
    obtain ⟨g', cap', m, hl, hr, hfr, hkm, hm, hgo, hex⟩ := hrel
    have HEX : Hid (True) := hex
    have HLr : Hid (Line wr gl (.slice (some ⟨g', 0, none⟩) m cap') (.map none) us sz wp) := hl
    have HRr : Hid (Row wr T g' cap' m (fillR C k)) := hr
    have HM2 : Hid (m = n ∨ (n = k ∧ m = k + 1)) := hm
    have HGO : Hid (g' = g ∨ w.heap.size ≤ g') := hgo
    have k0r := hl.c0
    have kfr := hl.fz 0
    have k1r := hl.c1
    have kf1r := hl.fz 1
    clear hl hr hm hgo hex k0
    by_cases hkm2 : m ≤ k
    · obtain rfl : m = k := by omega
      have HMM : Hid (m = n) := by unfold Hid; rcases HM2.out with h | h <;> omega
      have htg : T ≤ g' := HRr.out.1
      have hgw := HRr.out.lt
      have hTr : T ≤ wr.heap.size := Nat.le_trans hT hfr.size
      have hlg : gl < wr.heap.size := Blk.lt HLr.out
      go_wp2_with (at_builtin; refine wpList_append_lies _ rfl _ _ 22 rfl T 21 i0 (.int .i32 0) 1 4 Try.underlying22 I0.out.1 I0.out.2.1 I0.out.2.2.1 I0.out.2.2.2 rfl (by omega) (.slice (some ⟨g', 0, none⟩) m cap') m (rowOf (fillR C m) m) rfl (HRr.out.owns.alloc _) ⟨wr.heap.size, 0, none⟩ 1 1 [.int .i32 0] rfl rfl (World.news_of_block (heap_alloc_new wr _)) (by simp [Value.oneCell']) (by omega) (by unfold maxLen; omega) (by omega) (by simp; omega) (wr.heap.size + 1) (by simp) ?_; intro g2 cap2 w2 hown2 hgrow2 hat2 hlt2; have F2 : Fr (fun j => j = g') wr w2 := ((Fr.refl _ wr).alloc _).grown hgrow2 (fun j hj => by simpa [Value.ownBlock] using hj.symm); have HL2 : Hid (Line w2 gl (.slice (some ⟨g', 0, none⟩) m cap') (.map none) us sz wp) := HLr.out.fr F2 (by omega); have kc2 := HL2.out.c0; have kf2 := HL2.out.fz 0; have HR2 : Hid (Row w2 T g2 cap2 (m + 1) (fillR C m)) := Row.of_owns (by rw [rowOf_succ, show fillR C m m = .int .i32 0 from by simp [fillR]]; exact hown2); have HAT : Hid (g2 = g' ∨ g2 = wr.heap.size + 1) := (by rcases hat2 with h | h; (exact .inl (by simpa [Value.ownBlock] using h.symm)); exact .inr h); clear hown2 hgrow2 hat2)
      have htg2 : T ≤ g2 := HR2.out.1
      have hwz := hfr.size
      go_roundw
      case rel => exact ⟨g2, cap2, m + 1, HL2.out.s0 _, HR2.out.fr (Fr.ofOnly (only_set w2 gl 0 _)) (by omega), (hfr.trans (F2.mono (fun j _ h => .inr (by omega)))).setCell (p := ⟨gl, 0, none⟩) (.inl rfl) _, by omega, .inr ⟨HMM.out.symm, rfl⟩, by rcases HAT.out with h | h <;> rcases HGO.out with h' | h' <;> omega, trivial⟩
      case measure => rw [lenAt_line (HL2.out.s0 _), lenAt_line HLr.out]; omega
    · have HFr : Hid (Line wr gf (.slice (some ⟨g1, 0, none⟩) N N) (.map (some bf)) 0 0 false) := HF.out.fr hfr (by intro h; unfold tkS at h; omega)
      have HB1r : Hid (Blk wr g1 21 (rowOf (fun i => .int .i32 (C i)) N)) := hfr.blk (by intro h; unfold tkS at h; omega) HB1.out
      have htg : T ≤ g' := HRr.out.1
      have hgw := HRr.out.lt
      have hTr : T ≤ wr.heap.size := Nat.le_trans hT hfr.size
      have hlg : gl < wr.heap.size := Blk.lt HLr.out
      have f0 := HFr.out.c0
      have f1 := HFr.out.c1
      have d1 : wr.cell? ⟨g1, k, none⟩ = some (.int .i32 (C k)) := by rw [HB1r.out.cell, rowOf_get _ hkN]
      have d2 : wr.cell? ⟨g', k, none⟩ = some (.int .i32 0) := by rw [HRr.out.cell (by omega)]; simp [fillR]
      have d3 : wr.frozen? ⟨g', k, none⟩ = false := HRr.out.frozen k
      have x1 : (0 : Int) ≤ ((k : Nat) : Int) := by omega
      have x2 : ((k : Nat) : Int) < (m : Int) := by omega
      have x3 : ((k : Nat) : Int) < (N : Int) := by omega
      have F1 : Fr (fun j => j = g') wr ((wr.setCell ⟨g', k, none⟩ (.int .i32 (C k))).drew) := (Fr.ofOnly (only_set wr g' k _)).drew
      have HR1 : Hid (Row ((wr.setCell ⟨g', k, none⟩ (.int .i32 (C k))).drew) T g' cap' m (fillR C (k + 1))) := HRr.out.set (G := fillR C (k + 1)) (fun i hi he => by unfold fillR; by_cases e : i < k <;> simp [e] <;> omega) (fun _ => by simp [fillR])
      have HL1' : Hid (Line ((wr.setCell ⟨g', k, none⟩ (.int .i32 (C k))).drew) gl (.slice (some ⟨g', 0, none⟩) m cap') (.map none) us sz wp) := HLr.out.fr F1 (by omega)
      have hfr1 : Fr (tkS gl T) w ((wr.setCell ⟨g', k, none⟩ (.int .i32 (C k))).drew) := hfr.trans (F1.mono (fun j _ h => .inr (by omega)))
      have hfr0 : Fr (tkS gl T) w (wr.setCell ⟨g', k, none⟩ (.int .i32 (C k))) := hfr.setCell (p := ⟨g', k, none⟩) (.inr htg) _
      have HMF : Hid (m = n ∧ k < m ∨ n = k ∧ m = k + 1) := by
        rcases HM2.out with h | h
        · exact .inl ⟨h, by omega⟩
        · exact .inr h
      clear hfr
      have HMX : Hid (MapIs ((wr.setCell ⟨g', k, none⟩ (.int .i32 (C k))).drew) bf nk D) := MapIs.fr HM.out hfr1 (by intro h; unfold tkS at h; omega)
      have q2 := run_look HMX.out HT.out (x := ((k : Nat) : Int)) (WalkArith.wf_i64 ⟨by omega, by omega⟩) _ HFk.out
      have q3 := fun w => run_neq_slice_nil (P := Try.prog) w 22 21 (some ax) mm cc Try.underlying22
      have q4 := fun w => run_eql_map_nil (P := Try.prog) w 52 3 22 none Try.underlying52
      have q5 := fun w => run_makeMap (P := Try.prog) 52 w
      have HLB : Hid (Line ((((wr.setCell ⟨g', k, none⟩ (.int .i32 (C k))).setCell ⟨gl, 1, none⟩ (.map (some wr.heap.size))).alloc (.map #[] 0)).drew) gl (.slice (some ⟨g', 0, none⟩) m cap') (.map (some wr.heap.size)) us sz wp) := Blk.drew (Blk.alloc (Line.s1 (HLr.out.fr (Fr.ofOnly (only_set wr g' k _)) (by omega)) _) _)
      have HRn : Hid (Row (wr.setCell ⟨g', k, none⟩ (.int .i32 (C k))) T g' cap' m (fillR C (k + 1))) := HR1.out
      have HRB : Hid (Row ((((wr.setCell ⟨g', k, none⟩ (.int .i32 (C k))).setCell ⟨gl, 1, none⟩ (.map (some wr.heap.size))).alloc (.map #[] 0)).drew) T g' cap' m (fillR C (k + 1))) := (HRn.out.fr (Fr.ofOnly (only_set (wr.setCell ⟨g', k, none⟩ (.int .i32 (C k))) gl 1 (.map (some wr.heap.size)))) (show ¬ g' = gl by omega)).fr ((Fr.refl (fun _ => False) _).alloc (.map #[] 0)).drew (fun h => h)
      have hfrB : Fr (tkS gl T) w ((((wr.setCell ⟨g', k, none⟩ (.int .i32 (C k))).setCell ⟨gl, 1, none⟩ (.map (some wr.heap.size))).alloc (.map #[] 0)).drew) := ((hfr0.setCell (p := ⟨gl, 1, none⟩) (.inl rfl) (.map (some wr.heap.size))).alloc (.map #[] 0)).drew
      have HMB : Hid (World.ownsMap ((((wr.setCell ⟨g', k, none⟩ (.int .i32 (C k))).setCell ⟨gl, 1, none⟩ (.map (some wr.heap.size))).alloc (.map #[] 0)).drew) Try.prog 3 tokR wr.heap.size 0 (.map [])) := by
        have h := World.ownsMap_made ((wr.setCell ⟨g', k, none⟩ (.int .i32 (C k))).setCell ⟨gl, 1, none⟩ (.map (some wr.heap.size))) Try.prog 3 tokR
        rw [show ((wr.setCell ⟨g', k, none⟩ (.int .i32 (C k))).setCell ⟨gl, 1, none⟩ (.map (some wr.heap.size))).heap.size = wr.heap.size from by simp [World.setCell]] at h
        exact h
      go_wp2
      go_region
      go_wp2_with (at_mapUpdate; refine wpList_mapUpdate_own _ rfl _ _ _ 52 rfl 3 22 law3 Try.underlying52 tokR wr.heap.size 0 (.map []) rfl HMB.out (by unfold maxLen; omega) _ _ (.int .i64 ((k : Nat) : Int)) rfl rfl (key3 (WalkArith.wf_i64 ⟨by omega, by omega⟩)) (.held (.slice (some ax) mm cc)) [] rfl ?_; intro w7 hm7 hg7; try go_frame)
      have HW7 : Hid (Fr (fun j => j = wr.heap.size) ((((wr.setCell ⟨g', k, none⟩ (.int .i32 (C k))).setCell ⟨gl, 1, none⟩ (.map (some wr.heap.size))).alloc (.map #[] 0)).drew) w7) := (Fr.refl _ _).grown hg7 (fun j hj => by simpa using hj.symm)
      have HM7 : Hid (MapIs w7 wr.heap.size (0 + 1) ((DataW.map []).put (.int .i64 ((k : Nat) : Int)) (.held (.slice (some ax) mm cc)))) := hm7
      have HT7 : Hid (Tie ((DataW.map []).put (.int .i64 ((k : Nat) : Int)) (.held (.slice (some ax) mm cc))) (upF (fun _ => none) ((k : Nat) : Int) (.slice (some ax) mm cc))) := Tie.empty.put Maps.isMap_empty _ _
      have HL7 : Hid (Line w7 gl (.slice (some ⟨g', 0, none⟩) m cap') (.map (some wr.heap.size)) us sz wp) := HLB.out.fr HW7.out (by omega)
      have HR7 : Hid (Row w7 T g' cap' m (fillR C (k + 1))) := HRB.out.fr HW7.out (by omega)
      clear hg7 hm7
      go_wp2_with fail
      refine (lwritten gl _ _ us sz wp (((k : Nat) : Int) + 1) cols w7 HL7.out h0 h1 (by omega) (by omega) h4 h5).mono ?_
      rintro e w9 ⟨rfl, ho9, hl9⟩
      have HO9 : Hid (Only gl w7 w9) := ho9
      have HL9 : Hid (Line w9 gl (.slice (some ⟨g', 0, none⟩) m cap') (.map (some wr.heap.size)) (mx us (((k : Nat) : Int) + 1)) (rsv sz (((k : Nat) : Int) + 1) cols) wp) := hl9
      clear ho9 hl9
      go_wp2
      go_end0
      exact ⟨rfl, (hfrB.trans (HW7.out.mono (fun j _ h => .inr (by omega)))).trans ((Fr.ofOnly HO9.out).mono (fun j _ h => .inl h)), g', cap', m, HMF.out, HR7.out.fr (Fr.ofOnly HO9.out) (by omega), HGO.out, wr.heap.size, _, by omega, by omega, HL9.out, MapIs.fr HM7.out (Fr.ofOnly HO9.out) (by omega), HT7.out⟩

set_option maxRecDepth 10000 in
set_option maxHeartbeats 4000000 in
theorem take_RC (gl gf g1 N T : Nat) (C : Nat → Int) (bf nk : Nat) (D : DataW Value) (F : Int → Option Value) (ax : Addr) (mm cc : Nat) (bl ml : Nat) (Dl : DataW Value) (G : Int → Option Value) (us sz : Int) (wp : Bool) (cols : Int) (k : Nat) (g cap n : Nat) (w : World)
    (hl : Line w gl (.slice (some ⟨g, 0, none⟩) n cap) (.map (some bl)) us sz wp) (hr : Row w T g cap n (fillR C k)) (hkn : k ≤ n) (hn : n ≤ 65536) 
    (hf : Line w gf (.slice (some ⟨g1, 0, none⟩) N N) (.map (some bf)) 0 0 false) (hb1 : Blk w g1 21 (rowOf (fun i => .int .i32 (C i)) N)) (hkN : k < N) (hN : N ≤ 65535)
    (tl : gl < T) (tf : gf < T) (t1 : g1 < T) (nlf : gl ≠ gf) (nl1 : gl ≠ g1) (hT : T ≤ w.heap.size)
    (hm : MapIs w bf nk D) (hTi : Tie D F) (tbf : bf < T) (nbf : bf ≠ gl) (hF : F (k : Int) = some (.slice (some ax) mm cc))
    (hml : MapIs w bl ml Dl) (hTl : Tie Dl G) (tbl : T ≤ bl) (hmm : ml ≤ 65536) (nbl : bl ≠ g)
    (h0 : 0 ≤ sz) (h1 : sz ≤ 65535) (h4 : cols ≤ 65535) (h5 : -9223372036854775808 ≤ cols) :
    Calls Try.prog 30 #[.pointer (some ⟨gl, 0, none⟩), .pointer (some ⟨gf, 0, none⟩), .int .i64 k, .int .i64 k, .int .i64 cols] w fun e w' => e = .returned (.tuple #[]) ∧ Fr (tkS gl T) w w' ∧
      ∃ g' cap' m, (m = n ∧ k < m ∨ n = k ∧ m = k + 1) ∧ Row w' T g' cap' m (fillR C (k + 1)) ∧ (g' = g ∨ w.heap.size ≤ g') ∧ ∃ D', bl ≠ g' ∧ Line w' gl (.slice (some ⟨g', 0, none⟩) m cap') (.map (some bl)) (mx us ((k : Int) + 1)) (rsv sz ((k : Int) + 1) cols) wp ∧ MapIs w' bl (ml + 1) D' ∧ Tie D' (upF G (k : Int) (.slice (some ax) mm cc)) := by
  have HL : Hid (Line w gl (.slice (some ⟨g, 0, none⟩) n cap) (.map (some bl)) us sz wp) := hl
  have HR : Hid (Row w T g cap n (fillR C k)) := hr
  clear hr
  have q1 := fun w => Lib.run_eql_slice_nil (P := Try.prog) w 22 21 (some ⟨g, 0, none⟩) n cap 0 0 Try.underlying22
  have HF : Hid (Line w gf (.slice (some ⟨g1, 0, none⟩) N N) (.map (some bf)) 0 0 false) := hf
  have HB1 : Hid (Blk w g1 21 (rowOf (fun i => .int .i32 (C i)) N)) := hb1
  have k0 := hl.c0
  clear hl hf hb1
  have HM : Hid (MapIs w bf nk D) := hm
  have HT : Hid (Tie D F) := hTi
  have HFk : Hid ((F (k : Int)).getD (.slice none 0 0) = .slice (some ax) mm cc) := by rw [Hid, hF]; rfl
  clear hm hTi hF
  have HML : Hid (MapIs w bl ml Dl) := hml
  have HTL : Hid (Tie Dl G) := hTl
  clear hml hTl
  obtain ⟨i0, hi, hz0, hz1, hz2⟩ := info_parts info21
  have I0 : Hid (Try.prog.info? 21 = some i0 ∧ i0.zero = some (.int .i32 0) ∧ i0.size = 1 ∧ i0.bytes = 4) := ⟨hi, hz0, hz1, hz2⟩
  clear hi hz0 hz1 hz2
  go_enter Try.func30, Try.ntmps30
  go_wp2
  go_loopw [30] (fun _ wr => ∃ gg pp m, Line wr gl (.slice (some ⟨gg, 0, none⟩) m pp) (.map (some bl)) us sz wp ∧ Row wr T gg pp m (fillR C k) ∧ Fr (tkS gl T) w wr ∧ k ≤ m ∧ (m = n ∨ (n = k ∧ m = k + 1)) ∧ (gg = g ∨ w.heap.size ≤ gg) ∧ (MapIs wr bl ml Dl ∧ bl ≠ gg)) (fun _ wr => k + 1 - lenAt wr gl)
  case atStart => exact ⟨g, cap, n, HL.out, HR.out, Fr.refl _ _, hkn, .inl rfl, .inl rfl, ⟨HML.out, nbl⟩⟩
  case round =>
    obtain ⟨g', cap', m, hl, hr, hfr, hkm, hm, hgo, hex⟩ := hrel
    have HEX : Hid ((MapIs wr bl ml Dl ∧ bl ≠ g')) := hex
    have HLr : Hid (Line wr gl (.slice (some ⟨g', 0, none⟩) m cap') (.map (some bl)) us sz wp) := hl
    have HRr : Hid (Row wr T g' cap' m (fillR C k)) := hr
    have HM2 : Hid (m = n ∨ (n = k ∧ m = k + 1)) := hm
    have HGO : Hid (g' = g ∨ w.heap.size ≤ g') := hgo
    have k0r := hl.c0
    have kfr := hl.fz 0
    have k1r := hl.c1
    have kf1r := hl.fz 1
    clear hl hr hm hgo hex k0
    by_cases hkm2 : m ≤ k
    · obtain rfl : m = k := by omega
      have HMM : Hid (m = n) := by unfold Hid; rcases HM2.out with h | h <;> omega
      have htg : T ≤ g' := HRr.out.1
      have hgw := HRr.out.lt
      have hTr : T ≤ wr.heap.size := Nat.le_trans hT hfr.size
      have hlg : gl < wr.heap.size := Blk.lt HLr.out
      go_wp2_with (at_builtin; refine wpList_append_lies _ rfl _ _ 22 rfl T 21 i0 (.int .i32 0) 1 4 Try.underlying22 I0.out.1 I0.out.2.1 I0.out.2.2.1 I0.out.2.2.2 rfl (by omega) (.slice (some ⟨g', 0, none⟩) m cap') m (rowOf (fillR C m) m) rfl (HRr.out.owns.alloc _) ⟨wr.heap.size, 0, none⟩ 1 1 [.int .i32 0] rfl rfl (World.news_of_block (heap_alloc_new wr _)) (by simp [Value.oneCell']) (by omega) (by unfold maxLen; omega) (by omega) (by simp; omega) (wr.heap.size + 1) (by simp) ?_; intro g2 cap2 w2 hown2 hgrow2 hat2 hlt2; have F2 : Fr (fun j => j = g') wr w2 := ((Fr.refl _ wr).alloc _).grown hgrow2 (fun j hj => by simpa [Value.ownBlock] using hj.symm); have HL2 : Hid (Line w2 gl (.slice (some ⟨g', 0, none⟩) m cap') (.map (some bl)) us sz wp) := HLr.out.fr F2 (by omega); have kc2 := HL2.out.c0; have kf2 := HL2.out.fz 0; have HR2 : Hid (Row w2 T g2 cap2 (m + 1) (fillR C m)) := Row.of_owns (by rw [rowOf_succ, show fillR C m m = .int .i32 0 from by simp [fillR]]; exact hown2); have HAT : Hid (g2 = g' ∨ g2 = wr.heap.size + 1) := (by rcases hat2 with h | h; (exact .inl (by simpa [Value.ownBlock] using h.symm)); exact .inr h); clear hown2 hgrow2 hat2)
      have htg2 : T ≤ g2 := HR2.out.1
      have hwz := hfr.size
      go_roundw
      case rel => exact ⟨g2, cap2, m + 1, HL2.out.s0 _, HR2.out.fr (Fr.ofOnly (only_set w2 gl 0 _)) (by omega), (hfr.trans (F2.mono (fun j _ h => .inr (by omega)))).setCell (p := ⟨gl, 0, none⟩) (.inl rfl) _, by omega, .inr ⟨HMM.out.symm, rfl⟩, by rcases HAT.out with h | h <;> rcases HGO.out with h' | h' <;> omega, ⟨(HEX.out.1.fr F2 HEX.out.2).fr (Fr.ofOnly (only_set w2 gl 0 _)) (by omega), (by have := World.ownsMap.lt HEX.out.1; have := HEX.out.2; rcases HAT.out with h | h <;> omega)⟩⟩
      case measure => rw [lenAt_line (HL2.out.s0 _), lenAt_line HLr.out]; omega
    · have HFr : Hid (Line wr gf (.slice (some ⟨g1, 0, none⟩) N N) (.map (some bf)) 0 0 false) := HF.out.fr hfr (by intro h; unfold tkS at h; omega)
      have HB1r : Hid (Blk wr g1 21 (rowOf (fun i => .int .i32 (C i)) N)) := hfr.blk (by intro h; unfold tkS at h; omega) HB1.out
      have htg : T ≤ g' := HRr.out.1
      have hgw := HRr.out.lt
      have hTr : T ≤ wr.heap.size := Nat.le_trans hT hfr.size
      have hlg : gl < wr.heap.size := Blk.lt HLr.out
      have f0 := HFr.out.c0
      have f1 := HFr.out.c1
      have d1 : wr.cell? ⟨g1, k, none⟩ = some (.int .i32 (C k)) := by rw [HB1r.out.cell, rowOf_get _ hkN]
      have d2 : wr.cell? ⟨g', k, none⟩ = some (.int .i32 0) := by rw [HRr.out.cell (by omega)]; simp [fillR]
      have d3 : wr.frozen? ⟨g', k, none⟩ = false := HRr.out.frozen k
      have x1 : (0 : Int) ≤ ((k : Nat) : Int) := by omega
      have x2 : ((k : Nat) : Int) < (m : Int) := by omega
      have x3 : ((k : Nat) : Int) < (N : Int) := by omega
      have F1 : Fr (fun j => j = g') wr ((wr.setCell ⟨g', k, none⟩ (.int .i32 (C k))).drew) := (Fr.ofOnly (only_set wr g' k _)).drew
      have HR1 : Hid (Row ((wr.setCell ⟨g', k, none⟩ (.int .i32 (C k))).drew) T g' cap' m (fillR C (k + 1))) := HRr.out.set (G := fillR C (k + 1)) (fun i hi he => by unfold fillR; by_cases e : i < k <;> simp [e] <;> omega) (fun _ => by simp [fillR])
      have HL1' : Hid (Line ((wr.setCell ⟨g', k, none⟩ (.int .i32 (C k))).drew) gl (.slice (some ⟨g', 0, none⟩) m cap') (.map (some bl)) us sz wp) := HLr.out.fr F1 (by omega)
      have hfr1 : Fr (tkS gl T) w ((wr.setCell ⟨g', k, none⟩ (.int .i32 (C k))).drew) := hfr.trans (F1.mono (fun j _ h => .inr (by omega)))
      have hfr0 : Fr (tkS gl T) w (wr.setCell ⟨g', k, none⟩ (.int .i32 (C k))) := hfr.setCell (p := ⟨g', k, none⟩) (.inr htg) _
      have HMF : Hid (m = n ∧ k < m ∨ n = k ∧ m = k + 1) := by
        rcases HM2.out with h | h
        · exact .inl ⟨h, by omega⟩
        · exact .inr h
      clear hfr
      have HMX : Hid (MapIs ((wr.setCell ⟨g', k, none⟩ (.int .i32 (C k))).drew) bf nk D) := MapIs.fr HM.out hfr1 (by intro h; unfold tkS at h; omega)
      have q2 := run_look HMX.out HT.out (x := ((k : Nat) : Int)) (WalkArith.wf_i64 ⟨by omega, by omega⟩) _ HFk.out
      have q3 := fun w => run_neq_slice_nil (P := Try.prog) w 22 21 (some ax) mm cc Try.underlying22
      have q4 := fun w => run_eql_map_nil (P := Try.prog) w 52 3 22 (some bl) Try.underlying52
      have k1x := HL1'.out.c1
      have hblg : bl ≠ g' := HEX.out.2
      have hblt : bl < wr.heap.size := World.ownsMap.lt HEX.out.1
      have HMB : Hid (World.ownsMap ((wr.setCell ⟨g', k, none⟩ (.int .i32 (C k))).drew) Try.prog 3 tokR bl ml Dl) := MapIs.fr HEX.out.1 F1 hblg
      have HLB := HL1'
      have HRB := HR1
      go_wp2
      go_region
      go_wp2_with (at_mapUpdate; refine wpList_mapUpdate_own _ rfl _ _ _ 52 rfl 3 22 law3 Try.underlying52 tokR bl ml Dl rfl HMB.out (by unfold maxLen; omega) _ _ (.int .i64 ((k : Nat) : Int)) rfl rfl (key3 (WalkArith.wf_i64 ⟨by omega, by omega⟩)) (.held (.slice (some ax) mm cc)) [] rfl ?_; intro w7 hm7 hg7; try go_frame)
      have HW7 : Hid (Fr (fun j => j = bl) ((wr.setCell ⟨g', k, none⟩ (.int .i32 (C k))).drew) w7) := (Fr.refl _ _).grown hg7 (fun j hj => by simpa using hj.symm)
      have HM7 : Hid (MapIs w7 bl (ml + 1) (Dl.put (.int .i64 ((k : Nat) : Int)) (.held (.slice (some ax) mm cc)))) := hm7
      have HT7 : Hid (Tie (Dl.put (.int .i64 ((k : Nat) : Int)) (.held (.slice (some ax) mm cc))) (upF G ((k : Nat) : Int) (.slice (some ax) mm cc))) := HTL.out.put (World.ownsMap.isMap HMB.out) _ _
      have HL7 : Hid (Line w7 gl (.slice (some ⟨g', 0, none⟩) m cap') (.map (some bl)) us sz wp) := HLB.out.fr HW7.out (by omega)
      have HR7 : Hid (Row w7 T g' cap' m (fillR C (k + 1))) := HRB.out.fr HW7.out (by omega)
      clear hg7 hm7
      go_wp2_with fail
      refine (lwritten gl _ _ us sz wp (((k : Nat) : Int) + 1) cols w7 HL7.out h0 h1 (by omega) (by omega) h4 h5).mono ?_
      rintro e w9 ⟨rfl, ho9, hl9⟩
      have HO9 : Hid (Only gl w7 w9) := ho9
      have HL9 : Hid (Line w9 gl (.slice (some ⟨g', 0, none⟩) m cap') (.map (some bl)) (mx us (((k : Nat) : Int) + 1)) (rsv sz (((k : Nat) : Int) + 1) cols) wp) := hl9
      clear ho9 hl9
      go_wp2
      go_end0
      exact ⟨rfl, (hfr1.trans (HW7.out.mono (fun j _ h => .inr (by omega)))).trans ((Fr.ofOnly HO9.out).mono (fun j _ h => .inl h)), g', cap', m, HMF.out, HR7.out.fr (Fr.ofOnly HO9.out) (by omega), HGO.out, _, hblg, HL9.out, MapIs.fr HM7.out (Fr.ofOnly HO9.out) (by omega), HT7.out⟩

end Go.Proofs.Qxb6619264a.Cl
