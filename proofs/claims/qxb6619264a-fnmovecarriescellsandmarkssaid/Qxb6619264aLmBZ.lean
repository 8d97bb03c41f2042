import Derived.Test.Qxb6619264aLb
namespace Go.Proofs.Qxb6619264a.Cl
open Go.RowKit Go.Proofs.Qxb6619264a.W
set_option linter.unusedVariables false

set_option maxRecDepth 20000 in
set_option maxHeartbeats 16000000 in
theorem law_BZ (a0 av : Option Addr) (n0 c0 nk ck nv cv : Nat) (C : Nat → Int) (K : Nat → Int) (A : Nat → Option Addr) (L Cp : Nat → Nat) (R : Nat → Nat → Int) (us sz : Int) (wp : Bool) (cols : Int) (xk : Addr) (q2 q3 q4 : Int) (w : World)
    (h0 : n0 ≤ 65536) (h1 : nk ≤ 4096) (h2 : nv ≤ 4096) (z0 : a0 = none → n0 = 0) (zk : (some xk : Option Addr) = none → nk = 0) (zv : av = none → nv = 0)
    (i0 : In w a0 n0 (fun i => .int .i32 (C i))) (ik : In w (some xk) nk (fun i => .int .i64 (K i))) (iv : In w av nv (fun i => .slice (A i) (L i) (Cp i)))
    (wfK : ∀ i, i < nk → (Lit.int .i64 (K i)).wf = true) (hL : ∀ i, i < nv → L i ≤ maxLen) (hA : ∀ i, i < nv → A i = none → L i = 0) (hR : ∀ i, i < nv → In w (A i) (L i) (fun j => .int .i32 (R i j)))
    (bus : 0 ≤ us ∧ us ≤ 65535) (bsz : 0 ≤ sz ∧ sz ≤ 65535) (bcols : -9223372036854775808 ≤ cols ∧ cols ≤ 9223372036854775807) (bq4 : q4 ≤ 0) (bq5 : -9223372036854775808 ≤ q4) :
    Calls Try.prog 3 #[.slice a0 n0 c0, .slice (some xk) nk ck, .slice av nv cv, .int .u16 us, .int .u16 sz, .bool wp, .int .i64 cols, .int .i64 q2, .int .i64 q3, .int .i64 q4] w fun e w' => e = .returned (.bool true) ∧ Below w.heap.size w w' := by
  obtain ⟨bus0, bus1⟩ := bus
  obtain ⟨bsz0, bsz1⟩ := bsz
  obtain ⟨bc0, bc1⟩ := bcols
  have HI0 : Hid (In w a0 n0 (fun i => .int .i32 (C i)) ∧ (a0 = none → n0 = 0)) := ⟨i0, z0⟩
  have HIk : Hid (In w (some xk) nk (fun i => .int .i64 (K i)) ∧ (some xk = none → nk = 0)) := ⟨ik, zk⟩
  have HIv : Hid (In w av nv (fun i => .slice (A i) (L i) (Cp i)) ∧ (av = none → nv = 0)) := ⟨iv, zv⟩
  have HLm : Hid (∀ i, i < nv → L i ≤ maxLen) := hL
  have HAR : Hid ((∀ i, i < nv → A i = none → L i = 0) ∧ ∀ i, i < nv → In w (A i) (L i) (fun j => .int .i32 (R i j))) := ⟨hA, hR⟩
  have HWK : Hid (∀ i, i < nk → (Lit.int .i64 (K i)).wf = true) := wfK
  clear i0 ik iv z0 zk zv hL hA hR wfK
  go_enter Try.func3, Try.ntmps3
  go_wp2_with fail
  refine (bytesM a0 (some xk) av n0 c0 nk ck nv cv A L Cp us sz wp cols q2 q3 q4 w (by unfold maxLen; omega) (by unfold maxLen; omega) (by unfold maxLen; omega) HIv.out.1 HLm.out).mono ?_
  rintro e w' ⟨b, rfl, hw⟩
  subst hw
  cases b with
  | false =>
    go_wp2
    go_ret
    exact ⟨rfl, Below.refl _ _⟩
  | true =>
    go_wp2_with fail
    refine (lineBytes a0 (some xk) av n0 c0 nk ck nv cv A L Cp w' h0 (by omega) (by omega) HIv.out.1 HLm.out).mono ?_
    rintro e w'' ⟨r, rfl, hw, hsh⟩
    subst hw
    by_cases hr : 1048576 < r
    · go_wp2
      go_ret
      exact ⟨rfl, Below.refl _ _⟩
    · have HL : Hid (∀ i, i < nv → L i ≤ 1048576) := hsh (by omega)
      clear hsh
      by_cases hvk : nk = nv
      · subst hvk
        by_cases hcols : 65535 < cols
        · go_wp2
          go_ret
          exact ⟨rfl, Below.refl _ _⟩
        · go_wp2_with fail
          refine (cloneR a0 n0 c0 C w'' (by omega) HI0.out.2 HI0.out.1).mono ?_
          rintro e w1 ⟨v1, rfl, b1, o1⟩
          obtain ⟨a1, hv1, hn1, in1⟩ := o1.isIn
          subst hv1
          have O1 : Hid (Own w1 w''.heap.size w1.heap.size 21 (.slice a1 n0 n0) a0.isNone n0 (fun i => .int .i32 (C i))) := o1
          have N1 : Hid (a0.isNone = a1.isNone) := hn1
          have I1 : Hid (In w1 a1 n0 (fun i => .int .i32 (C i))) := in1
          clear o1 hn1 in1
          go_wp2_with fail
          refine (cloneK (some xk) nk ck K w1 (by omega) HIk.out.2 (HIk.out.1.below b1)).mono ?_
          rintro e w2 ⟨v2, rfl, b2, o2⟩
          rcases o2 with ⟨hh, _⟩ | ⟨_, g2, hg2, hg2', hv2, k2⟩
          · cases hh
          subst hv2
          have K2 : Hid (Blk w2 g2 3 (rowOf (fun i => .int .i64 (K i)) nk)) := k2
          clear k2
          have b02 : Below w''.heap.size w'' w2 := b1.trans (b2.mono b1.size)
          go_wp2_with fail
          refine (cloneRows av nk cv A L Cp R w2 (by omega) HIv.out.2 (HIv.out.1.below b02) HL.out HAR.out.1 (fun i hi => (HAR.out.2 i hi).below b02)).mono ?_
          rintro e w3 ⟨v3, V3, rfl, b3, o3, p3⟩
          obtain ⟨a3, hv3, hn3, in3⟩ := o3.isIn
          subst hv3
          have I3 : Hid (In w3 a3 nk V3) := in3
          have P3 : Hid (∀ i, i < nk → Own w3 w2.heap.size w3.heap.size 21 (V3 i) (A i).isNone (L i) (fun j => .int .i32 (R i j))) := p3
          have N3 : Hid (av.isNone = a3.isNone) := hn3
          clear in3 p3 o3 hn3
          have b13 : Below w1.heap.size w1 w3 := b2.trans (b3.mono b2.size)
          go_wp2_with fail
          refine (cloneR a1 n0 n0 C w3 (by omega) (fun h => HI0.out.2 (by have := N1.out; rw [h] at this; simpa using this)) (I1.out.below b13)).mono ?_
          rintro e w4 ⟨v4, rfl, b4, o4⟩
          obtain ⟨a4, hv4, hn4, in4⟩ := o4.isIn
          subst hv4
          have O4 : Hid (Own w4 w3.heap.size w4.heap.size 21 (.slice a4 n0 n0) a1.isNone n0 (fun i => .int .i32 (C i))) := o4
          have N4 : Hid (a1.isNone = a4.isNone) := hn4
          clear o4 hn4 in4
          have b24 : Below w2.heap.size w2 w4 := b3.trans (b4.mono b3.size)
          go_wp2_with fail
          refine (cloneK (some ⟨g2, 0, none⟩) nk nk K w4 (by omega) (fun h => by cases h) (.inr ⟨g2, 0, rfl, (K2.out.below b24 hg2').lt, fun i hi => by rw [Nat.zero_add, (K2.out.below b24 hg2').cell, rowOf_get _ hi]⟩)).mono ?_
          rintro e w5 ⟨v5, rfl, b5, o5⟩
          rcases o5 with ⟨hh, _⟩ | ⟨_, g5, hg5, hg5', hv5, k5⟩
          · cases hh
          subst hv5
          have K5 : Hid (Blk w5 g5 3 (rowOf (fun i => .int .i64 (K i)) nk)) := k5
          clear k5
          have b35 : Below w3.heap.size w3 w5 := b4.trans (b5.mono b4.size)
          go_wp2_with fail
          refine (cloneRows a3 nk nk (fun i => aOf (V3 i)) L L R w5 (by omega) (fun h => HIv.out.2 (by have := N3.out; rw [h] at this; simpa using this)) (in_congr (I3.out.below b35) (fun i hi => ((owns_in P3.out i hi).1))) HL.out
            (fun i hi h => HAR.out.1 i hi (by have := (owns_in P3.out i hi).2.1; rw [h] at this; simpa using this)) (fun i hi => ((owns_in P3.out i hi).2.2).below b35)).mono ?_
          rintro e w6 ⟨v6, V6, rfl, b6, o6, p6⟩
          obtain ⟨a6, hv6, hn6, in6⟩ := o6.isIn
          subst hv6
          have O6 : Hid (Own w6 w5.heap.size w6.heap.size 22 (.slice a6 nk nk) a3.isNone nk V6) := o6
          have P6 : Hid (∀ i, i < nk → Own w6 w5.heap.size w6.heap.size 21 (V6 i) (aOf (V3 i)).isNone (L i) (fun j => .int .i32 (R i j))) := p6
          clear in6 p6 o6 hn6
          have s01 := b1.size
          have s12 := b2.size
          have s23 := b3.size
          have s34 := b4.size
          have s45 := b5.size
          have s56 := b6.size
          have b36 : Below w3.heap.size w3 w6 := b35.trans (b6.mono (by omega))
          have b06 : Below w''.heap.size w'' w6 := (b1.trans ((b13.trans (b36.mono (by omega))).mono (by omega)))
          go_wp2_with fail
          refine (zzline a1 n0 n0 (some ⟨g2, 0, none⟩) nk nk a3 nk K (fun i => (aOf (V3 i), L i, L i)) us sz wp w6 (by omega) HWK.out (.inr ⟨g2, 0, rfl, by omega, fun i hi => by rw [Nat.zero_add, ((K2.out.below b24 hg2').below (b5.trans (b6.mono b5.size)) (by omega)).cell, rowOf_get _ hi]⟩)
            (in_congr (I3.out.below b36) (fun i hi => (owns_in P3.out i hi).1)) ⟨g2, 0, none⟩ rfl).mono ?_
          rintro e w7 ⟨rfl, b7, s67, l7, D, m7, t7⟩
          have HT7 : Hid (Tie D (lastV K (fun i => .slice (aOf (V3 i)) (L i) (L i)) nk)) := t7
          have HM7 : Hid (MapIs w7 (w6.heap.size + 1) nk D) := m7
          have HL7 : Hid (Line w7 w6.heap.size (.slice a1 n0 n0) (.map (some (w6.heap.size + 1))) us sz wp) := l7
          clear t7 m7 l7
          have b17 : Below w1.heap.size w1 w7 := b13.trans ((b36.trans (b7.mono (by omega))).mono (by omega))
          have O17 : Hid (Own w7 w''.heap.size w1.heap.size 21 (.slice a1 n0 n0) a0.isNone n0 (fun i => .int .i32 (C i))) := O1.out.below b17
          go_wp2_with fail
          refine (zzmove_0 w6.heap.size cols q2 q3 q4 w7 (by omega)).mono ?_
          rintro e w8 ⟨rfl, hw8⟩
          have hw8 := hw8.symm
          subst hw8
          have HT8 : Hid (Tie D (fun y => (Option.some y).bind (lastV K (fun i => .slice (aOf (V3 i)) (L i) (L i)) nk))) := HT7.out
          have HM8 : Hid (MapIs w7 (w6.heap.size + 1) nk D) := HM7.out
          have HL8 : Hid (Line w7 w6.heap.size (.slice a1 n0 n0) (.map (some (w6.heap.size + 1))) us sz wp) := HL7.out
          have O8 : Hid (Own w7 w''.heap.size w1.heap.size 21 (.slice a1 n0 n0) a0.isNone n0 (fun i => .int .i32 (C i))) := O17.out
          have FR8 : Hid (Fr (mvS w6.heap.size w''.heap.size w1.heap.size) w7 w7) := Fr.refl _ _
          clear HL7 O17 HT7 HM7
          have s67b : w6.heap.size ≤ w7.heap.size := b7.size
          have b47 : Below w4.heap.size w4 w7 := (b5.trans ((b6.trans (b7.mono b6.size)).mono b5.size))
          have O48 : Hid (Own w7 w3.heap.size w4.heap.size 21 (.slice a4 n0 n0) a1.isNone n0 (fun i => .int .i32 (C i))) := (O4.out.below b47).fr FR8.out (fun k h1 h2 h3 => by unfold mvS at h3; omega)
          have BF : Hid (Below w''.heap.size w'' w7) := (b06.trans (b7.mono (by omega))).trans (FR8.out.below (by omega) (fun k h1 h2 => by unfold mvS at h2; omega))
          have q1 : ∀ w, (binOp .eql 22 (.slice a1 n0 n0) (.slice none 0 0)).run Try.prog w = .ok (.bool a0.isNone) w := fun w => by rw [N1.out]; exact Lib.run_eql_slice_nil (P := Try.prog) w 22 21 a1 n0 n0 0 0 Try.underlying22
          have q4' : ∀ w, (binOp .eql 22 (.slice a4 n0 n0) (.slice none 0 0)).run Try.prog w = .ok (.bool a0.isNone) w := fun w => by rw [N1.out, N4.out]; exact Lib.run_eql_slice_nil (P := Try.prog) w 22 21 a4 n0 n0 0 0 Try.underlying22
          have K58 : Hid (Blk w7 g5 3 (rowOf (fun i => .int .i64 (K i)) nk)) := FR8.out.blk (by intro h; unfold mvS at h; omega) ((K5.out.below b6 hg5').below b7 (by omega))
          have O68 : Hid (Own w7 w5.heap.size w6.heap.size 22 (.slice a6 nk nk) a3.isNone nk V6) := (O6.out.below b7).fr FR8.out (fun k h1 h2 h3 => by unfold mvS at h3; omega)
          have P68 : Hid (∀ i, i < nk → Own w7 w5.heap.size w6.heap.size 21 (V6 i) (aOf (V3 i)).isNone (L i) (fun j => .int .i32 (R i j))) := fun i hi => ((P6.out i hi).below b7).fr FR8.out (fun k h1 h2 h3 => by unfold mvS at h3; omega)
          have P38 : Hid (∀ i, i < nk → Own w7 w2.heap.size w3.heap.size 21 (V3 i) (A i).isNone (L i) (fun j => .int .i32 (R i j))) := fun i hi => (((P3.out i hi).below b36).below b7).fr FR8.out (fun k h1 h2 h3 => by unfold mvS at h3; omega)
          have s8 : w6.heap.size ≤ w7.heap.size := Nat.le_trans b7.size FR8.out.size
          have lg5 : g5 < w7.heap.size := K58.out.lt
          have q5 := fun w => Lib.run_eql_slice_nil (P := Try.prog) w 23 3 (some ⟨g5, 0, none⟩) nk nk 0 0 Try.underlying23
          have BFS : Hid (w''.heap.size ≤ w7.heap.size) := BF.out.size
          clear b1 b2 b3 b4 b5 b6 b7 b02 b13 b24 b35 b36 b06 b17 b47 O4 FR8 P3 P6 O6 HI0 HIk HIv HLm HAR I1 O1 I3 N3 N4
          go_wp2_with fail
          refine (getWrapped w6.heap.size (.slice a1 n0 n0) (.map (some (w6.heap.size + 1))) us sz wp w7 HL8.out).mono ?_
          rintro e x ⟨rfl, hx⟩
          have hx := hx.symm
          subst hx
          go_wp2_with fail
          refine (getUsed w6.heap.size (.slice a1 n0 n0) (.map (some (w6.heap.size + 1))) us sz wp w7 HL8.out).mono ?_
          rintro e x ⟨rfl, hx⟩
          have hx := hx.symm
          subst hx
          go_wp2_with fail
          refine (getSize w6.heap.size (.slice a1 n0 n0) (.map (some (w6.heap.size + 1))) us sz wp w7 HL8.out).mono ?_
          rintro e x ⟨rfl, hx⟩
          have hx := hx.symm
          subst hx
          go_wp2_with fail
          refine (getCells w6.heap.size a1 n0 n0 (.map (some (w6.heap.size + 1))) us sz wp w7 HL8.out).mono ?_
          rintro e x ⟨rfl, hx⟩
          have hx := hx.symm
          subst hx
          go_wp2
          have HK1 : Hid True := trivial
          go_loop [28] (fun i => ∃ k : Nat, k ≤ n0 ∧ i = .int .i64 k) (fun i => n0 - (intOf i).toNat)
          case atStart => exact ⟨0, Nat.zero_le _, rfl⟩
          case round =>
            obtain ⟨k, hk, rfl⟩ := hrel
            by_cases hlt : k < n0
            · rcases O8.out with ⟨_, hz, _⟩ | ⟨_, g1, hg1, hg1', hv1, kb1⟩
              · omega
              rcases O48.out with ⟨_, hz, _⟩ | ⟨_, g4, hg4, hg4', hv4, kb4⟩
              · omega
              simp only [Value.slice.injEq, and_true] at hv1 hv4
              subst hv1 hv4
              have c4 : w7.cell? ⟨g4, k, none⟩ = some (.int .i32 (C k)) := by rw [kb4.cell, rowOf_get _ hlt]
              have HC1 : Hid (w7.cell? ⟨g1, k, none⟩ = some (.int .i32 (C k))) := by unfold Hid; rw [kb1.cell, rowOf_get _ hlt]
              have HK4 : Hid (Blk w7 g4 21 (rowOf (fun i => .int .i32 (C i)) n0)) := kb4
              clear kb1 kb4
              have c1 : w7.cell? ⟨g1, k, none⟩ = some (.int .i32 (C k)) := HC1.out
              go_wp2
              go_round
              case rel => exact ⟨k + 1, hlt, by go_num⟩
              case measure => simp [intOf]; omega
            · go_wp2_with fail
              refine (getMarksNil w6.heap.size (.slice a1 n0 n0) (some (w6.heap.size + 1)) us sz wp w7 HL8.out).mono ?_
              rintro e x ⟨rfl, hx⟩
              have hx := hx.symm
              subst hx
              go_wp2
              have HSZ : Hid (Maps.size D = cnt K nk (fun y => some y) nk) := marks_count HM8.out K (fun i => .slice (aOf (V3 i)) (L i) (L i)) nk (fun y => some y) (fun y => some y) (fun x y => by simp [eq_comm]) HT8.out
              clear HK1
              go_loopw [30, 31] (fun m i wr => ∃ k : Nat, k ≤ nk ∧ i = .int .i64 k ∧ m = .int .i64 (cnt K nk (fun y => some y) k) ∧ Below w7.heap.size w7 wr) (fun _ i _ => nk - (intOf i).toNat)
              case atStart => exact ⟨0, Nat.zero_le _, rfl, rfl, Below.refl _ _⟩
              case round =>
                obtain ⟨k, hk2, rfl, rfl, hbr⟩ := hrel
                have hcl : (cnt K nk (fun y => some y) k : Int) ≤ k := by have := cnt_le K nk (fun y => some y) k; omega
                by_cases hlt2 : k < nk
                · have HKr : Hid (Blk wr g5 3 (rowOf (fun i => .int .i64 (K i)) nk)) := K58.out.below hbr lg5
                  have ck : wr.cell? ⟨g5, k, none⟩ = some (.int .i64 (K k)) := by rw [HKr.out.cell, rowOf_get _ hlt2]
                  have hwk := HWK.out k hlt2
                  obtain ⟨bk0, bk1⟩ := wf64 hwk
                  have HWk : Hid ((Lit.int .i64 (K k)).wf = true) := hwk
                  clear hwk
                  go_wp2_with fail
                  refine (lastIndex g5 nk nk K (K k) wr (by omega) (fun i hi => by rw [HKr.out.cell, rowOf_get _ hi])).mono ?_
                  rintro e x ⟨rfl, hx⟩
                  have hx := hx.symm
                  subst hx
                  by_cases hli : lastIx K (K k) nk = k
                  · have li1 : (lastIx K (K k) nk == (k : Int)) = true := by simp [hli]
                    have li2 : lastIx K (K k) nk ≤ k := by omega
                    have li3 : (k : Int) ≤ lastIx K (K k) nk := by omega
                    have HLI : Hid (lastIx K (K k) nk = k) := hli
                    clear hli
                    rcases O68.out with ⟨_, hz, _⟩ | ⟨_, g6, hg6, hg6', hv6, kb6⟩
                    · omega
                    simp only [Value.slice.injEq, and_true] at hv6
                    subst hv6
                    have HB6 : Hid (Blk w7 g6 22 (rowOf V6 nk)) := kb6
                    clear kb6
                    have cv6 : wr.cell? ⟨g6, k, none⟩ = some (.slice (aOf (V6 k)) (L k) (L k)) := by
                      rw [(HB6.out.below hbr HB6.out.lt).cell, rowOf_get _ hlt2, ← (owns_in P68.out k hlt2).1]
                    have HLr : Hid (Line wr w6.heap.size (.slice a1 n0 n0) (.map (some (w6.heap.size + 1))) us sz wp) := HL8.out.fr (Fr.ofBelow (S := fun _ => False) hbr) (fun h => h)
                    have HMr : Hid (MapIs wr (w6.heap.size + 1) nk D) := MapIs.below HM8.out hbr (World.ownsMap.lt HM8.out)
                    have HFV : Hid ((lastV K (fun i => .slice (aOf (V3 i)) (L i) (L i)) nk) (K k) = some (.slice (aOf (V3 k)) (L k) (L k))) := lastV_at K _ (K k) nk k HLI.out
                    have HSAME := same (aOf (V3 k)) (aOf (V6 k)) (L k) (L k) (L k) (R k)
                    have HSX : Hid (∀ w, Below w7.heap.size w7 w → Calls Try.prog 21 #[.slice (aOf (V3 k)) (L k) (L k), .slice (aOf (V6 k)) (L k) (L k)] w fun e w' => e = .returned (.bool true) ∧ Below w.heap.size w w') := fun w hb =>
                      HSAME w (HL.out k hlt2) ((owns_in P68.out k hlt2).2.1) (((owns_in P38.out k hlt2).2.2).below hb) (((owns_in P68.out k hlt2).2.2).below hb)
                    clear HSAME
                    have HCN1 : Hid (cnt K nk (fun y => some y) (k + 1) = cnt K nk (fun y => some y) k + 1) := by
                      have e : sel K nk (fun y => some y) k = some (K k) := by unfold sel; rw [if_pos HLI.out]; done
                      simp [Hid, cnt, e]
                    go_wp2_with fail
                    refine (getMarksAt w6.heap.size (.slice a1 n0 n0) (w6.heap.size + 1) nk D (fun y => (Option.some y).bind (lastV K (fun i => .slice (aOf (V3 i)) (L i) (L i)) nk)) us sz wp (K k) (aOf (V3 k)) (L k) (L k) wr HLr.out HMr.out HT8.out (HWk.out) (by simp only [Option.bind_some]; exact HFV.out)).mono ?_
                    rintro e x ⟨rfl, hx⟩
                    have hx := hx.symm
                    subst hx
                    go_wp2_with fail
                    refine (HSX.out wr hbr).mono ?_
                    rintro e w9 ⟨rfl, hb9⟩
                    have hbr9 : Below w7.heap.size w7 w9 := hbr.trans (hb9.mono hbr.size)
                    clear hb9
                    go_wp2
                    go_roundw
                    case rel => exact ⟨k + 1, hlt2, by go_num, by rw [HCN1.out]; go_num, hbr9⟩
                    case measure => simp [intOf]; omega
                  · have li1 : (lastIx K (K k) nk == (k : Int)) = false := by simp [hli]
                    have li2 : (lastIx K (K k) nk != (k : Int)) = true := by simp [hli]
                    have HCN1 : Hid (cnt K nk (fun y => some y) (k + 1) = cnt K nk (fun y => some y) k) := by simp [Hid, cnt, sel, hli]
                    clear hli
                    go_wp2
                    go_roundw
                    case rel => exact ⟨k + 1, hlt2, by go_num, by rw [HCN1.out], hbr⟩
                    case measure => simp [intOf]; omega
                · obtain rfl : k = nk := by omega
                  have HLr : Hid (Line wr w6.heap.size (.slice a1 n0 n0) (.map (some (w6.heap.size + 1))) us sz wp) := HL8.out.fr (Fr.ofBelow (S := fun _ => False) hbr) (fun h => h)
                  have HMr : Hid (MapIs wr (w6.heap.size + 1) k D) := MapIs.below HM8.out hbr (World.ownsMap.lt HM8.out)
                  go_wp2_with fail
                  refine (getMarksLen w6.heap.size (.slice a1 n0 n0) (w6.heap.size + 1) k D us sz wp wr HLr.out HMr.out).mono ?_
                  rintro e x ⟨rfl, hx⟩
                  have hx := hx.symm
                  subst hx
                  go_wp2
                  go_ret
                  exact ⟨ret_bool (by rw [HSZ.out]; simp), BF.out.trans (hbr.mono BFS.out)⟩
      · have hvk2 : ((nv : Int) == (nk : Int)) = false := by simp; omega
        go_wp2
        go_ret
        exact ⟨rfl, Below.refl _ _⟩

end Go.Proofs.Qxb6619264a.Cl
