import Derived.Test.Qxb6619264aTa
namespace Go.Proofs.Qxb6619264a.Cl
open Go.RowKit Go.Proofs.Qxb6619264a.W
set_option linter.unusedVariables false

set_option maxRecDepth 10000 in
set_option maxHeartbeats 4000000 in
theorem take_RN (gl gf g1 N T : Nat) (C : Nat → Int) (vm : Value) (ml : Nat) (Dl : DataW Value) (us sz : Int) (wp : Bool) (cols : Int) (k : Nat) (g cap n : Nat) (w : World)
    (hl : Line w gl (.slice (some ⟨g, 0, none⟩) n cap) vm us sz wp) (hr : Row w T g cap n (fillR C k)) (hkn : k ≤ n) (hn : n ≤ 65536) 
    (hf : Line w gf (.slice (some ⟨g1, 0, none⟩) N N) (.map none) 0 0 false) (hb1 : Blk w g1 21 (rowOf (fun i => .int .i32 (C i)) N)) (hkN : k < N) (hN : N ≤ 65535)
    (tl : gl < T) (tf : gf < T) (t1 : g1 < T) (nlf : gl ≠ gf) (nl1 : gl ≠ g1) (hT : T ≤ w.heap.size)
    (hmk : Mk w T g vm ml Dl)
    (h0 : 0 ≤ sz) (h1 : sz ≤ 65535) (h4 : cols ≤ 65535) (h5 : -9223372036854775808 ≤ cols) :
    Calls Try.prog 30 #[.pointer (some ⟨gl, 0, none⟩), .pointer (some ⟨gf, 0, none⟩), .int .i64 k, .int .i64 k, .int .i64 cols] w fun e w' => e = .returned (.tuple #[]) ∧ Fr (tkS gl T) w w' ∧
      ∃ g' cap' m, (m = n ∧ k < m ∨ n = k ∧ m = k + 1) ∧ Row w' T g' cap' m (fillR C (k + 1)) ∧ (g' = g ∨ w.heap.size ≤ g') ∧ Line w' gl (.slice (some ⟨g', 0, none⟩) m cap') vm (mx us ((k : Int) + 1)) (rsv sz ((k : Int) + 1) cols) wp ∧ Mk w' T g' vm ml Dl := by
  have HL : Hid (Line w gl (.slice (some ⟨g, 0, none⟩) n cap) vm us sz wp) := hl
  have HR : Hid (Row w T g cap n (fillR C k)) := hr
  clear hr
  have q1 := fun w => Lib.run_eql_slice_nil (P := Try.prog) w 22 21 (some ⟨g, 0, none⟩) n cap 0 0 Try.underlying22
  have HF : Hid (Line w gf (.slice (some ⟨g1, 0, none⟩) N N) (.map none) 0 0 false) := hf
  have HB1 : Hid (Blk w g1 21 (rowOf (fun i => .int .i32 (C i)) N)) := hb1
  have k0 := hl.c0
  clear hl hf hb1
  have HMK : Hid (Mk w T g vm ml Dl) := hmk
  clear hmk
  obtain ⟨i0, hi, hz0, hz1, hz2⟩ := info_parts info21
  have I0 : Hid (Try.prog.info? 21 = some i0 ∧ i0.zero = some (.int .i32 0) ∧ i0.size = 1 ∧ i0.bytes = 4) := ⟨hi, hz0, hz1, hz2⟩
  clear hi hz0 hz1 hz2
  go_enter Try.func30, Try.ntmps30
  go_wp2
  go_loopw [30] (fun _ wr => ∃ gg pp m, Line wr gl (.slice (some ⟨gg, 0, none⟩) m pp) vm us sz wp ∧ Row wr T gg pp m (fillR C k) ∧ Fr (tkS gl T) w wr ∧ k ≤ m ∧ (m = n ∨ (n = k ∧ m = k + 1)) ∧ (gg = g ∨ w.heap.size ≤ gg) ∧ Mk wr T gg vm ml Dl) (fun _ wr => k + 1 - lenAt wr gl)
  case atStart => exact ⟨g, cap, n, HL.out, HR.out, Fr.refl _ _, hkn, .inl rfl, .inl rfl, HMK.out⟩
  case round =>
    obtain ⟨g', cap', m, hl, hr, hfr, hkm, hm, hgo, hex⟩ := hrel
    have HEX : Hid (Mk wr T g' vm ml Dl) := hex
    have HLr : Hid (Line wr gl (.slice (some ⟨g', 0, none⟩) m cap') vm us sz wp) := hl
    have HRr : Hid (Row wr T g' cap' m (fillR C k)) := hr
    have HM2 : Hid (m = n ∨ (n = k ∧ m = k + 1)) := hm
    have HGO : Hid (g' = g ∨ w.heap.size ≤ g') := hgo
    have k0r := hl.c0
    have kfr := hl.fz 0
    have k1r := hl.c1
    have kf1r := hl.fz 1
    clear hl hr hm hgo hex k0
    by_cases hkm2 : m ≤ k
    · obtain rfl : m = k := by omega
      have HMM : Hid (m = n) := by unfold Hid; rcases HM2.out with h | h <;> omega
      have htg : T ≤ g' := HRr.out.1
      have hgw := HRr.out.lt
      have hTr : T ≤ wr.heap.size := Nat.le_trans hT hfr.size
      have hlg : gl < wr.heap.size := Blk.lt HLr.out
      go_wp2_with (at_builtin; refine wpList_append_lies _ rfl _ _ 22 rfl T 21 i0 (.int .i32 0) 1 4 Try.underlying22 I0.out.1 I0.out.2.1 I0.out.2.2.1 I0.out.2.2.2 rfl (by omega) (.slice (some ⟨g', 0, none⟩) m cap') m (rowOf (fillR C m) m) rfl (HRr.out.owns.alloc _) ⟨wr.heap.size, 0, none⟩ 1 1 [.int .i32 0] rfl rfl (World.news_of_block (heap_alloc_new wr _)) (by simp [Value.oneCell']) (by omega) (by unfold maxLen; omega) (by omega) (by simp; omega) (wr.heap.size + 1) (by simp) ?_; intro g2 cap2 w2 hown2 hgrow2 hat2 hlt2; have F2 : Fr (fun j => j = g') wr w2 := ((Fr.refl _ wr).alloc _).grown hgrow2 (fun j hj => by simpa [Value.ownBlock] using hj.symm); have HL2 : Hid (Line w2 gl (.slice (some ⟨g', 0, none⟩) m cap') vm us sz wp) := HLr.out.fr F2 (by omega); have kc2 := HL2.out.c0; have kf2 := HL2.out.fz 0; have HR2 : Hid (Row w2 T g2 cap2 (m + 1) (fillR C m)) := Row.of_owns (by rw [rowOf_succ, show fillR C m m = .int .i32 0 from by simp [fillR]]; exact hown2); have HAT : Hid (g2 = g' ∨ g2 = wr.heap.size + 1) := (by rcases hat2 with h | h; (exact .inl (by simpa [Value.ownBlock] using h.symm)); exact .inr h); clear hown2 hgrow2 hat2)
      have htg2 : T ≤ g2 := HR2.out.1
      have hwz := hfr.size
      go_roundw
      case rel => exact ⟨g2, cap2, m + 1, HL2.out.s0 _, HR2.out.fr (Fr.ofOnly (only_set w2 gl 0 _)) (by omega), (hfr.trans (F2.mono (fun j _ h => .inr (by omega)))).setCell (p := ⟨gl, 0, none⟩) (.inl rfl) _, by omega, .inr ⟨HMM.out.symm, rfl⟩, by rcases HAT.out with h | h <;> rcases HGO.out with h' | h' <;> omega, (by rcases HEX.out with h | ⟨bl, e1, e2, e3, e4⟩; (exact .inl h); exact .inr ⟨bl, e1, e2, (by have := World.ownsMap.lt e4; rcases HAT.out with h | h <;> omega), (e4.fr F2 e3).fr (Fr.ofOnly (only_set w2 gl 0 _)) (by omega)⟩)⟩
      case measure => rw [lenAt_line (HL2.out.s0 _), lenAt_line HLr.out]; omega
    · have HFr : Hid (Line wr gf (.slice (some ⟨g1, 0, none⟩) N N) (.map none) 0 0 false) := HF.out.fr hfr (by intro h; unfold tkS at h; omega)
      have HB1r : Hid (Blk wr g1 21 (rowOf (fun i => .int .i32 (C i)) N)) := hfr.blk (by intro h; unfold tkS at h; omega) HB1.out
      have htg : T ≤ g' := HRr.out.1
      have hgw := HRr.out.lt
      have hTr : T ≤ wr.heap.size := Nat.le_trans hT hfr.size
      have hlg : gl < wr.heap.size := Blk.lt HLr.out
      have f0 := HFr.out.c0
      have f1 := HFr.out.c1
      have d1 : wr.cell? ⟨g1, k, none⟩ = some (.int .i32 (C k)) := by rw [HB1r.out.cell, rowOf_get _ hkN]
      have d2 : wr.cell? ⟨g', k, none⟩ = some (.int .i32 0) := by rw [HRr.out.cell (by omega)]; simp [fillR]
      have d3 : wr.frozen? ⟨g', k, none⟩ = false := HRr.out.frozen k
      have x1 : (0 : Int) ≤ ((k : Nat) : Int) := by omega
      have x2 : ((k : Nat) : Int) < (m : Int) := by omega
      have x3 : ((k : Nat) : Int) < (N : Int) := by omega
      have F1 : Fr (fun j => j = g') wr ((wr.setCell ⟨g', k, none⟩ (.int .i32 (C k))).drew) := (Fr.ofOnly (only_set wr g' k _)).drew
      have HR1 : Hid (Row ((wr.setCell ⟨g', k, none⟩ (.int .i32 (C k))).drew) T g' cap' m (fillR C (k + 1))) := HRr.out.set (G := fillR C (k + 1)) (fun i hi he => by unfold fillR; by_cases e : i < k <;> simp [e] <;> omega) (fun _ => by simp [fillR])
      have HL1' : Hid (Line ((wr.setCell ⟨g', k, none⟩ (.int .i32 (C k))).drew) gl (.slice (some ⟨g', 0, none⟩) m cap') vm us sz wp) := HLr.out.fr F1 (by omega)
      have hfr1 : Fr (tkS gl T) w ((wr.setCell ⟨g', k, none⟩ (.int .i32 (C k))).drew) := hfr.trans (F1.mono (fun j _ h => .inr (by omega)))
      have hfr0 : Fr (tkS gl T) w (wr.setCell ⟨g', k, none⟩ (.int .i32 (C k))) := hfr.setCell (p := ⟨g', k, none⟩) (.inr htg) _
      have HMF : Hid (m = n ∧ k < m ∨ n = k ∧ m = k + 1) := by
        rcases HM2.out with h | h
        · exact .inl ⟨h, by omega⟩
        · exact .inr h
      clear hfr
      have q2 := fun w => run_look_nil w ((k : Nat) : Int) (WalkArith.wf_i64 ⟨by omega, by omega⟩)
      have q3 := fun w => run_neq_slice_nil (P := Try.prog) w 22 21 none 0 0 Try.underlying22
      go_wp2
      go_region
      go_wp2_with fail
      refine (lwritten gl _ _ us sz wp (((k : Nat) : Int) + 1) cols ((wr.setCell ⟨g', k, none⟩ (.int .i32 (C k))).drew) HL1'.out h0 h1 (by omega) (by omega) h4 h5).mono ?_
      rintro e w9 ⟨rfl, ho9, hl9⟩
      have HO9 : Hid (Only gl ((wr.setCell ⟨g', k, none⟩ (.int .i32 (C k))).drew) w9) := ho9
      have HL9 : Hid (Line w9 gl (.slice (some ⟨g', 0, none⟩) m cap') vm (mx us (((k : Nat) : Int) + 1)) (rsv sz (((k : Nat) : Int) + 1) cols) wp) := hl9
      clear ho9 hl9
      go_wp2
      go_end0
      exact ⟨rfl, hfr1.trans ((Fr.ofOnly HO9.out).mono (fun j _ h => .inl h)), g', cap', m, HMF.out, HR1.out.fr (Fr.ofOnly HO9.out) (by omega), HGO.out, HL9.out, (HEX.out.fr F1 (fun b h1 h2 h3 => ⟨h2, h2⟩)).fr (Fr.ofOnly HO9.out) (fun b h1 h2 h3 => ⟨by omega, h2⟩)⟩

set_option maxRecDepth 10000 in
set_option maxHeartbeats 4000000 in
theorem take_RA (gl gf g1 N T : Nat) (C : Nat → Int) (vm : Value) (ml : Nat) (Dl : DataW Value) (bf nk : Nat) (D : DataW Value) (F : Int → Option Value) (us sz : Int) (wp : Bool) (cols : Int) (k : Nat) (g cap n : Nat) (w : World)
    (hl : Line w gl (.slice (some ⟨g, 0, none⟩) n cap) vm us sz wp) (hr : Row w T g cap n (fillR C k)) (hkn : k ≤ n) (hn : n ≤ 65536) 
    (hf : Line w gf (.slice (some ⟨g1, 0, none⟩) N N) (.map (some bf)) 0 0 false) (hb1 : Blk w g1 21 (rowOf (fun i => .int .i32 (C i)) N)) (hkN : k < N) (hN : N ≤ 65535)
    (tl : gl < T) (tf : gf < T) (t1 : g1 < T) (nlf : gl ≠ gf) (nl1 : gl ≠ g1) (hT : T ≤ w.heap.size)
    (hm : MapIs w bf nk D) (hTi : Tie D F) (tbf : bf < T) (nbf : bf ≠ gl) (hF : (F (k : Int)).getD (.slice none 0 0) = .slice none 0 0)
    (hmk : Mk w T g vm ml Dl)
    (h0 : 0 ≤ sz) (h1 : sz ≤ 65535) (h4 : cols ≤ 65535) (h5 : -9223372036854775808 ≤ cols) :
    Calls Try.prog 30 #[.pointer (some ⟨gl, 0, none⟩), .pointer (some ⟨gf, 0, none⟩), .int .i64 k, .int .i64 k, .int .i64 cols] w fun e w' => e = .returned (.tuple #[]) ∧ Fr (tkS gl T) w w' ∧
      ∃ g' cap' m, (m = n ∧ k < m ∨ n = k ∧ m = k + 1) ∧ Row w' T g' cap' m (fillR C (k + 1)) ∧ (g' = g ∨ w.heap.size ≤ g') ∧ Line w' gl (.slice (some ⟨g', 0, none⟩) m cap') vm (mx us ((k : Int) + 1)) (rsv sz ((k : Int) + 1) cols) wp ∧ Mk w' T g' vm ml Dl := by
  have HL : Hid (Line w gl (.slice (some ⟨g, 0, none⟩) n cap) vm us sz wp) := hl
  have HR : Hid (Row w T g cap n (fillR C k)) := hr
  clear hr
  have q1 := fun w => Lib.run_eql_slice_nil (P := Try.prog) w 22 21 (some ⟨g, 0, none⟩) n cap 0 0 Try.underlying22
  have HF : Hid (Line w gf (.slice (some ⟨g1, 0, none⟩) N N) (.map (some bf)) 0 0 false) := hf
  have HB1 : Hid (Blk w g1 21 (rowOf (fun i => .int .i32 (C i)) N)) := hb1
  have k0 := hl.c0
  clear hl hf hb1
  have HM : Hid (MapIs w bf nk D) := hm
  have HT : Hid (Tie D F) := hTi
  have HFk : Hid ((F (k : Int)).getD (.slice none 0 0) = .slice none 0 0) := by rw [Hid, hF]
  clear hm hTi hF
  have HMK : Hid (Mk w T g vm ml Dl) := hmk
  clear hmk
  obtain ⟨i0, hi, hz0, hz1, hz2⟩ := info_parts info21
  have I0 : Hid (Try.prog.info? 21 = some i0 ∧ i0.zero = some (.int .i32 0) ∧ i0.size = 1 ∧ i0.bytes = 4) := ⟨hi, hz0, hz1, hz2⟩
  clear hi hz0 hz1 hz2
  go_enter Try.func30, Try.ntmps30
  go_wp2
  go_loopw [30] (fun _ wr => ∃ gg pp m, Line wr gl (.slice (some ⟨gg, 0, none⟩) m pp) vm us sz wp ∧ Row wr T gg pp m (fillR C k) ∧ Fr (tkS gl T) w wr ∧ k ≤ m ∧ (m = n ∨ (n = k ∧ m = k + 1)) ∧ (gg = g ∨ w.heap.size ≤ gg) ∧ Mk wr T gg vm ml Dl) (fun _ wr => k + 1 - lenAt wr gl)
  case atStart => exact ⟨g, cap, n, HL.out, HR.out, Fr.refl _ _, hkn, .inl rfl, .inl rfl, HMK.out⟩
  case round =>
    obtain ⟨g', cap', m, hl, hr, hfr, hkm, hm, hgo, hex⟩ := hrel
    have HEX : Hid (Mk wr T g' vm ml Dl) := hex
    have HLr : Hid (Line wr gl (.slice (some ⟨g', 0, none⟩) m cap') vm us sz wp) := hl
    have HRr : Hid (Row wr T g' cap' m (fillR C k)) := hr
    have HM2 : Hid (m = n ∨ (n = k ∧ m = k + 1)) := hm
    have HGO : Hid (g' = g ∨ w.heap.size ≤ g') := hgo
    have k0r := hl.c0
    have kfr := hl.fz 0
    have k1r := hl.c1
    have kf1r := hl.fz 1
    clear hl hr hm hgo hex k0
    by_cases hkm2 : m ≤ k
    · obtain rfl : m = k := by omega
      have HMM : Hid (m = n) := by unfold Hid; rcases HM2.out with h | h <;> omega
      have htg : T ≤ g' := HRr.out.1
      have hgw := HRr.out.lt
      have hTr : T ≤ wr.heap.size := Nat.le_trans hT hfr.size
      have hlg : gl < wr.heap.size := Blk.lt HLr.out
      go_wp2_with (at_builtin; refine wpList_append_lies _ rfl _ _ 22 rfl T 21 i0 (.int .i32 0) 1 4 Try.underlying22 I0.out.1 I0.out.2.1 I0.out.2.2.1 I0.out.2.2.2 rfl (by omega) (.slice (some ⟨g', 0, none⟩) m cap') m (rowOf (fillR C m) m) rfl (HRr.out.owns.alloc _) ⟨wr.heap.size, 0, none⟩ 1 1 [.int .i32 0] rfl rfl (World.news_of_block (heap_alloc_new wr _)) (by simp [Value.oneCell']) (by omega) (by unfold maxLen; omega) (by omega) (by simp; omega) (wr.heap.size + 1) (by simp) ?_; intro g2 cap2 w2 hown2 hgrow2 hat2 hlt2; have F2 : Fr (fun j => j = g') wr w2 := ((Fr.refl _ wr).alloc _).grown hgrow2 (fun j hj => by simpa [Value.ownBlock] using hj.symm); have HL2 : Hid (Line w2 gl (.slice (some ⟨g', 0, none⟩) m cap') vm us sz wp) := HLr.out.fr F2 (by omega); have kc2 := HL2.out.c0; have kf2 := HL2.out.fz 0; have HR2 : Hid (Row w2 T g2 cap2 (m + 1) (fillR C m)) := Row.of_owns (by rw [rowOf_succ, show fillR C m m = .int .i32 0 from by simp [fillR]]; exact hown2); have HAT : Hid (g2 = g' ∨ g2 = wr.heap.size + 1) := (by rcases hat2 with h | h; (exact .inl (by simpa [Value.ownBlock] using h.symm)); exact .inr h); clear hown2 hgrow2 hat2)
      have htg2 : T ≤ g2 := HR2.out.1
      have hwz := hfr.size
      go_roundw
      case rel => exact ⟨g2, cap2, m + 1, HL2.out.s0 _, HR2.out.fr (Fr.ofOnly (only_set w2 gl 0 _)) (by omega), (hfr.trans (F2.mono (fun j _ h => .inr (by omega)))).setCell (p := ⟨gl, 0, none⟩) (.inl rfl) _, by omega, .inr ⟨HMM.out.symm, rfl⟩, by rcases HAT.out with h | h <;> rcases HGO.out with h' | h' <;> omega, (by rcases HEX.out with h | ⟨bl, e1, e2, e3, e4⟩; (exact .inl h); exact .inr ⟨bl, e1, e2, (by have := World.ownsMap.lt e4; rcases HAT.out with h | h <;> omega), (e4.fr F2 e3).fr (Fr.ofOnly (only_set w2 gl 0 _)) (by omega)⟩)⟩
      case measure => rw [lenAt_line (HL2.out.s0 _), lenAt_line HLr.out]; omega
    · have HFr : Hid (Line wr gf (.slice (some ⟨g1, 0, none⟩) N N) (.map (some bf)) 0 0 false) := HF.out.fr hfr (by intro h; unfold tkS at h; omega)
      have HB1r : Hid (Blk wr g1 21 (rowOf (fun i => .int .i32 (C i)) N)) := hfr.blk (by intro h; unfold tkS at h; omega) HB1.out
      have htg : T ≤ g' := HRr.out.1
      have hgw := HRr.out.lt
      have hTr : T ≤ wr.heap.size := Nat.le_trans hT hfr.size
      have hlg : gl < wr.heap.size := Blk.lt HLr.out
      have f0 := HFr.out.c0
      have f1 := HFr.out.c1
      have d1 : wr.cell? ⟨g1, k, none⟩ = some (.int .i32 (C k)) := by rw [HB1r.out.cell, rowOf_get _ hkN]
      have d2 : wr.cell? ⟨g', k, none⟩ = some (.int .i32 0) := by rw [HRr.out.cell (by omega)]; simp [fillR]
      have d3 : wr.frozen? ⟨g', k, none⟩ = false := HRr.out.frozen k
      have x1 : (0 : Int) ≤ ((k : Nat) : Int) := by omega
      have x2 : ((k : Nat) : Int) < (m : Int) := by omega
      have x3 : ((k : Nat) : Int) < (N : Int) := by omega
      have F1 : Fr (fun j => j = g') wr ((wr.setCell ⟨g', k, none⟩ (.int .i32 (C k))).drew) := (Fr.ofOnly (only_set wr g' k _)).drew
      have HR1 : Hid (Row ((wr.setCell ⟨g', k, none⟩ (.int .i32 (C k))).drew) T g' cap' m (fillR C (k + 1))) := HRr.out.set (G := fillR C (k + 1)) (fun i hi he => by unfold fillR; by_cases e : i < k <;> simp [e] <;> omega) (fun _ => by simp [fillR])
      have HL1' : Hid (Line ((wr.setCell ⟨g', k, none⟩ (.int .i32 (C k))).drew) gl (.slice (some ⟨g', 0, none⟩) m cap') vm us sz wp) := HLr.out.fr F1 (by omega)
      have hfr1 : Fr (tkS gl T) w ((wr.setCell ⟨g', k, none⟩ (.int .i32 (C k))).drew) := hfr.trans (F1.mono (fun j _ h => .inr (by omega)))
      have hfr0 : Fr (tkS gl T) w (wr.setCell ⟨g', k, none⟩ (.int .i32 (C k))) := hfr.setCell (p := ⟨g', k, none⟩) (.inr htg) _
      have HMF : Hid (m = n ∧ k < m ∨ n = k ∧ m = k + 1) := by
        rcases HM2.out with h | h
        · exact .inl ⟨h, by omega⟩
        · exact .inr h
      clear hfr
      have HMX : Hid (MapIs ((wr.setCell ⟨g', k, none⟩ (.int .i32 (C k))).drew) bf nk D) := MapIs.fr HM.out hfr1 (by intro h; unfold tkS at h; omega)
      have q2 := run_look HMX.out HT.out (x := ((k : Nat) : Int)) (WalkArith.wf_i64 ⟨by omega, by omega⟩) _ HFk.out
      have q3 := fun w => run_neq_slice_nil (P := Try.prog) w 22 21 none 0 0 Try.underlying22
      go_wp2
      go_region
      go_wp2_with fail
      refine (lwritten gl _ _ us sz wp (((k : Nat) : Int) + 1) cols ((wr.setCell ⟨g', k, none⟩ (.int .i32 (C k))).drew) HL1'.out h0 h1 (by omega) (by omega) h4 h5).mono ?_
      rintro e w9 ⟨rfl, ho9, hl9⟩
      have HO9 : Hid (Only gl ((wr.setCell ⟨g', k, none⟩ (.int .i32 (C k))).drew) w9) := ho9
      have HL9 : Hid (Line w9 gl (.slice (some ⟨g', 0, none⟩) m cap') vm (mx us (((k : Nat) : Int) + 1)) (rsv sz (((k : Nat) : Int) + 1) cols) wp) := hl9
      clear ho9 hl9
      go_wp2
      go_end0
      exact ⟨rfl, hfr1.trans ((Fr.ofOnly HO9.out).mono (fun j _ h => .inl h)), g', cap', m, HMF.out, HR1.out.fr (Fr.ofOnly HO9.out) (by omega), HGO.out, HL9.out, (HEX.out.fr F1 (fun b h1 h2 h3 => ⟨h2, h2⟩)).fr (Fr.ofOnly HO9.out) (fun b h1 h2 h3 => ⟨by omega, h2⟩)⟩

end Go.Proofs.Qxb6619264a.Cl
