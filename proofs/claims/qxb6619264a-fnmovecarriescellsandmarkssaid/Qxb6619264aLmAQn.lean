import Derived.Test.Qxb6619264aLb
namespace Go.Proofs.Qxb6619264a.Cl
open Go.RowKit Go.Proofs.Qxb6619264a.W
set_option linter.unusedVariables false

set_option maxRecDepth 20000 in
set_option maxHeartbeats 16000000 in
theorem law_AQn (a0 av : Option Addr) (n0 c0 ck nv cv : Nat) (C : Nat → Int) (K : Nat → Int) (A : Nat → Option Addr) (L Cp : Nat → Nat) (R : Nat → Nat → Int) (us sz : Int) (wp : Bool) (cols : Int) (f t c : Nat) (w : World)
    (h0 : n0 ≤ 65536) (h2 : nv ≤ 4096) (z0 : a0 = none → n0 = 0) (zv : av = none → nv = 0)
    (i0 : In w a0 n0 (fun i => .int .i32 (C i))) (iv : In w av nv (fun i => .slice (A i) (L i) (Cp i)))
    (hL : ∀ i, i < nv → L i ≤ maxLen) (hA : ∀ i, i < nv → A i = none → L i = 0) (hR : ∀ i, i < nv → In w (A i) (L i) (fun j => .int .i32 (R i j)))
    (bus : 0 ≤ us ∧ us ≤ 65535) (bsz : 0 ≤ sz ∧ sz ≤ 65535) (bcols : -9223372036854775808 ≤ cols ∧ cols ≤ 9223372036854775807) (hc1 : 1 ≤ c) (hfc : f + c ≤ 65535) (htc : t + c ≤ 65535) (hcn : a0 ≠ none → f + c ≤ n0 ∧ t + c ≤ n0) (hmu : (t : Int) + c ≤ us) (gn : a0.isNone = true) :
    Calls Try.prog 3 #[.slice a0 n0 c0, .slice (none) 0 ck, .slice av nv cv, .int .u16 us, .int .u16 sz, .bool wp, .int .i64 cols, .int .i64 f, .int .i64 t, .int .i64 c] w fun e w' => e = .returned (.bool true) ∧ Below w.heap.size w w' := by
  have HCN : Hid (a0.isNone = false → f + c ≤ n0 ∧ t + c ≤ n0) := fun h => hcn (fun e => by rw [e] at h; cases h)
  have HNN : Hid (a0 ≠ none → f + c ≤ n0 ∧ t + c ≤ n0) := hcn
  clear hcn
  have hmx : mx us ((t : Int) + c) = us := by unfold mx; rw [if_neg (by omega)]
  obtain ⟨bus0, bus1⟩ := bus
  obtain ⟨bsz0, bsz1⟩ := bsz
  obtain ⟨bc0, bc1⟩ := bcols
  have HI0 : Hid (In w a0 n0 (fun i => .int .i32 (C i)) ∧ (a0 = none → n0 = 0)) := ⟨i0, z0⟩
  have HIv : Hid (In w av nv (fun i => .slice (A i) (L i) (Cp i)) ∧ (av = none → nv = 0)) := ⟨iv, zv⟩
  have HLm : Hid (∀ i, i < nv → L i ≤ maxLen) := hL
  have HAR : Hid ((∀ i, i < nv → A i = none → L i = 0) ∧ ∀ i, i < nv → In w (A i) (L i) (fun j => .int .i32 (R i j))) := ⟨hA, hR⟩
  clear i0 iv z0 zv hL hA hR
  go_enter Try.func3, Try.ntmps3
  go_wp2_with fail
  refine (bytesM a0 (none) av n0 c0 0 ck nv cv A L Cp us sz wp cols (f : Int) (t : Int) (c : Int) w (by unfold maxLen; omega) (by unfold maxLen; omega) (by unfold maxLen; omega) HIv.out.1 HLm.out).mono ?_
  rintro e w' ⟨b, rfl, hw⟩
  subst hw
  cases b with
  | false =>
    go_wp2
    go_ret
    exact ⟨rfl, Below.refl _ _⟩
  | true =>
    go_wp2_with fail
    refine (lineBytes a0 (none) av n0 c0 0 ck nv cv A L Cp w' h0 (by omega) (by omega) HIv.out.1 HLm.out).mono ?_
    rintro e w'' ⟨r, rfl, hw, hsh⟩
    subst hw
    by_cases hr : 1048576 < r
    · go_wp2
      go_ret
      exact ⟨rfl, Below.refl _ _⟩
    · have HL : Hid (∀ i, i < nv → L i ≤ 1048576) := hsh (by omega)
      clear hsh
      by_cases hvk : 0 = nv
      · subst hvk
        by_cases hcols : 65535 < cols
        · go_wp2
          go_ret
          exact ⟨rfl, Below.refl _ _⟩
        · have q0 := fun w => run_neq_slice_nil (P := Try.prog) w 22 21 a0 n0 c0 Try.underlying22
          go_wp2_with fail
          refine (cloneR a0 n0 c0 C w'' (by omega) HI0.out.2 HI0.out.1).mono ?_
          rintro e w1 ⟨v1, rfl, b1, o1⟩
          obtain ⟨a1, hv1, hn1, in1⟩ := o1.isIn
          subst hv1
          have O1 : Hid (Own w1 w''.heap.size w1.heap.size 21 (.slice a1 n0 n0) a0.isNone n0 (fun i => .int .i32 (C i))) := o1
          have N1 : Hid (a0.isNone = a1.isNone) := hn1
          have I1 : Hid (In w1 a1 n0 (fun i => .int .i32 (C i))) := in1
          clear o1 hn1 in1
          go_wp2_with fail
          refine (cloneK (none) 0 ck K w1 (by omega) (fun _ => rfl) (.inl rfl)).mono ?_
          rintro e w2 ⟨v2, rfl, b2, o2⟩
          obtain hv2 : v2 = .slice none 0 0 := by
            rcases o2 with ⟨_, _, h⟩ | ⟨hh, _⟩
            · exact h
            · cases hh
          subst hv2
          have b02 : Below w''.heap.size w'' w2 := b1.trans (b2.mono b1.size)
          go_wp2_with fail
          refine (cloneRows av 0 cv A L Cp R w2 (by omega) (fun _ => rfl) (.inl rfl) HL.out HAR.out.1 (fun i hi => (HAR.out.2 i hi).below b02)).mono ?_
          rintro e w3 ⟨v3, V3, rfl, b3, o3, p3⟩
          obtain ⟨a3, hv3, hn3, in3⟩ := o3.isIn
          subst hv3
          have I3 : Hid (In w3 a3 0 V3) := in3
          have P3 : Hid (∀ i, i < 0 → Own w3 w2.heap.size w3.heap.size 21 (V3 i) (A i).isNone (L i) (fun j => .int .i32 (R i j))) := p3
          have N3 : Hid (av.isNone = a3.isNone) := hn3
          clear in3 p3 o3 hn3
          have b13 : Below w1.heap.size w1 w3 := b2.trans (b3.mono b2.size)
          go_wp2_with fail
          refine (cloneR a1 n0 n0 C w3 (by omega) (fun h => HI0.out.2 (by have := N1.out; rw [h] at this; simpa using this)) (I1.out.below b13)).mono ?_
          rintro e w4 ⟨v4, rfl, b4, o4⟩
          obtain ⟨a4, hv4, hn4, in4⟩ := o4.isIn
          subst hv4
          have O4 : Hid (Own w4 w3.heap.size w4.heap.size 21 (.slice a4 n0 n0) a1.isNone n0 (fun i => .int .i32 (C i))) := o4
          have N4 : Hid (a1.isNone = a4.isNone) := hn4
          clear o4 hn4 in4
          have b24 : Below w2.heap.size w2 w4 := b3.trans (b4.mono b3.size)
          go_wp2_with fail
          refine (cloneK none 0 0 K w4 (by omega) (fun _ => rfl) (.inl rfl)).mono ?_
          rintro e w5 ⟨v5, rfl, b5, o5⟩
          obtain hv5 : v5 = .slice none 0 0 := by
            rcases o5 with ⟨_, _, h⟩ | ⟨hh, _⟩
            · exact h
            · cases hh
          subst hv5
          have b35 : Below w3.heap.size w3 w5 := b4.trans (b5.mono b4.size)
          go_wp2_with fail
          refine (cloneRows a3 0 0 (fun i => aOf (V3 i)) L L R w5 (by omega) (fun _ => rfl) (in_congr (I3.out.below b35) (fun i hi => ((owns_in P3.out i hi).1))) HL.out
            (fun i hi h => HAR.out.1 i hi (by have := (owns_in P3.out i hi).2.1; rw [h] at this; simpa using this)) (fun i hi => ((owns_in P3.out i hi).2.2).below b35)).mono ?_
          rintro e w6 ⟨v6, V6, rfl, b6, o6, p6⟩
          obtain ⟨a6, hv6, hn6, in6⟩ := o6.isIn
          subst hv6
          have O6 : Hid (Own w6 w5.heap.size w6.heap.size 22 (.slice a6 0 0) a3.isNone 0 V6) := o6
          have P6 : Hid (∀ i, i < 0 → Own w6 w5.heap.size w6.heap.size 21 (V6 i) (aOf (V3 i)).isNone (L i) (fun j => .int .i32 (R i j))) := p6
          clear in6 p6 o6 hn6
          have s01 := b1.size
          have s12 := b2.size
          have s23 := b3.size
          have s34 := b4.size
          have s45 := b5.size
          have s56 := b6.size
          have b36 : Below w3.heap.size w3 w6 := b35.trans (b6.mono (by omega))
          have b06 : Below w''.heap.size w'' w6 := (b1.trans ((b13.trans (b36.mono (by omega))).mono (by omega)))
          go_wp2_with fail
          refine (zzline_nil a1 n0 n0 0 a3 0 0 us sz wp w6).mono ?_
          rintro e w7 ⟨rfl, b7, s67, l7⟩
          have HL7 : Hid (Line w7 w6.heap.size (.slice a1 n0 n0) (.map none) us sz wp) := l7
          have s67' : w6.heap.size + 1 ≤ w7.heap.size := by omega
          clear l7 s67
          have b17 : Below w1.heap.size w1 w7 := b13.trans ((b36.trans (b7.mono (by omega))).mono (by omega))
          have O17 : Hid (Own w7 w''.heap.size w1.heap.size 21 (.slice a1 n0 n0) a0.isNone n0 (fun i => .int .i32 (C i))) := O1.out.below b17
          go_wp2_with fail
          refine (zzmove_n w6.heap.size (.slice a1 n0 n0) a0.isNone n0 C w''.heap.size w1.heap.size us sz wp cols f t c w7 HL7.out O17.out (by omega) bsz0 bsz1 (by omega) bc0 hc1 (by omega) (by omega) HCN.out h0).mono ?_
          rintro e w8 ⟨rfl, fr8, l8, o8⟩
          have HL8 : Hid (Line w8 w6.heap.size (.slice a1 n0 n0) (.map none) (mx us ((t : Int) + c)) (rsv (rsv sz ((f : Int) + c) cols) ((t : Int) + c) cols) wp) := l8
          have O8 : Hid (Own w8 w''.heap.size w1.heap.size 21 (.slice a1 n0 n0) a0.isNone n0 (fun i => .int .i32 (mvC C f t c i))) := o8
          have FR8 : Hid (Fr (mvS w6.heap.size w''.heap.size w1.heap.size) w7 w8) := fr8
          clear l8 o8 fr8 HL7 O17
          have s67b : w6.heap.size ≤ w7.heap.size := b7.size
          have b47 : Below w4.heap.size w4 w7 := (b5.trans ((b6.trans (b7.mono b6.size)).mono b5.size))
          have O48 : Hid (Own w8 w3.heap.size w4.heap.size 21 (.slice a4 n0 n0) a1.isNone n0 (fun i => .int .i32 (C i))) := (O4.out.below b47).fr FR8.out (fun k h1 h2 h3 => by unfold mvS at h3; omega)
          have BF : Hid (Below w''.heap.size w'' w8) := (b06.trans (b7.mono (by omega))).trans (FR8.out.below (by omega) (fun k h1 h2 => by unfold mvS at h2; omega))
          have q1 : ∀ w, (binOp .eql 22 (.slice a1 n0 n0) (.slice none 0 0)).run Try.prog w = .ok (.bool a0.isNone) w := fun w => by rw [N1.out]; exact Lib.run_eql_slice_nil (P := Try.prog) w 22 21 a1 n0 n0 0 0 Try.underlying22
          have q4' : ∀ w, (binOp .eql 22 (.slice a4 n0 n0) (.slice none 0 0)).run Try.prog w = .ok (.bool a0.isNone) w := fun w => by rw [N1.out, N4.out]; exact Lib.run_eql_slice_nil (P := Try.prog) w 22 21 a4 n0 n0 0 0 Try.underlying22
          have q5 := fun w => Lib.run_eql_slice_nil (P := Try.prog) w 23 3 none 0 0 0 0 Try.underlying23
          have BFS : Hid (w''.heap.size ≤ w8.heap.size) := BF.out.size
          clear b1 b2 b3 b4 b5 b6 b7 b02 b13 b24 b35 b36 b06 b17 b47 O4 FR8 P3 P6 O6 HI0 HIv HLm HAR I1 O1 I3 N3 N4
          go_wp2_with fail
          refine (getWrapped w6.heap.size (.slice a1 n0 n0) (.map none) (mx us ((t : Int) + c)) (rsv (rsv sz ((f : Int) + c) cols) ((t : Int) + c) cols) wp w8 HL8.out).mono ?_
          rintro e x ⟨rfl, hx⟩
          have hx := hx.symm
          subst hx
          go_wp2_with fail
          refine (reserve sz ((f : Int) + c) cols w8 bsz0 bsz1 (by omega) (by omega) (by omega) bc0).mono ?_
          rintro e x ⟨rfl, hx⟩
          have hx := hx.symm
          subst hx
          obtain ⟨r1, r2⟩ := rsv_bd (need := (f : Int) + c) (cols := cols) bsz0 bsz1 (by omega) (by omega) (by omega)
          go_wp2_with fail
          refine (reserve (rsv sz ((f : Int) + c) cols) ((t : Int) + c) cols w8 r1 r2 (by omega) (by omega) (by omega) bc0).mono ?_
          rintro e x ⟨rfl, hx⟩
          have hx := hx.symm
          subst hx
          go_wp2_with fail
          refine (getUsed w6.heap.size (.slice a1 n0 n0) (.map none) (mx us ((t : Int) + c)) (rsv (rsv sz ((f : Int) + c) cols) ((t : Int) + c) cols) wp w8 HL8.out).mono ?_
          rintro e x ⟨rfl, hx⟩
          have hx := hx.symm
          subst hx
          go_wp2_with fail
          refine (getSize w6.heap.size (.slice a1 n0 n0) (.map none) (mx us ((t : Int) + c)) (rsv (rsv sz ((f : Int) + c) cols) ((t : Int) + c) cols) wp w8 HL8.out).mono ?_
          rintro e x ⟨rfl, hx⟩
          have hx := hx.symm
          subst hx
          go_wp2_with fail
          refine (getCells w6.heap.size a1 n0 n0 (.map none) (mx us ((t : Int) + c)) (rsv (rsv sz ((f : Int) + c) cols) ((t : Int) + c) cols) wp w8 HL8.out).mono ?_
          rintro e x ⟨rfl, hx⟩
          have hx := hx.symm
          subst hx
          go_wp2
          have HK1 : Hid True := trivial
          go_loop [28] (fun i => ∃ k : Nat, k ≤ n0 ∧ i = .int .i64 k) (fun i => n0 - (intOf i).toNat)
          case atStart => exact ⟨0, Nat.zero_le _, rfl⟩
          case round =>
            obtain ⟨k, hk, rfl⟩ := hrel
            by_cases hlt : k < n0
            · rcases O8.out with ⟨_, hz, _⟩ | ⟨_, g1, hg1, hg1', hv1, kb1⟩
              · omega
              rcases O48.out with ⟨_, hz, _⟩ | ⟨_, g4, hg4, hg4', hv4, kb4⟩
              · omega
              simp only [Value.slice.injEq, and_true] at hv1 hv4
              subst hv1 hv4
              have c4 : w8.cell? ⟨g4, k, none⟩ = some (.int .i32 (C k)) := by rw [kb4.cell, rowOf_get _ hlt]
              have HC1 : Hid (w8.cell? ⟨g1, k, none⟩ = some (.int .i32 ((mvC C f t c) k))) := by unfold Hid; rw [kb1.cell, rowOf_get _ hlt]
              have HK4 : Hid (Blk w8 g4 21 (rowOf (fun i => .int .i32 (C i)) n0)) := kb4
              clear kb1 kb4
              by_cases x1 : t ≤ k ∧ k < t + c
              · obtain ⟨y1, y2⟩ := x1
                have c1 : w8.cell? ⟨g1, k, none⟩ = some (.int .i32 (C (k - t + f))) := by rw [HC1.out]; simp only [mvC]; rw [if_pos ⟨y1, y2⟩]
                have c5 : w8.cell? ⟨g4, k - t + f, none⟩ = some (.int .i32 (C (k - t + f))) := by
                  rcases O8.out with ⟨hnn, _, _⟩ | ⟨hnn, _⟩
                  · have := N1.out; rw [hnn] at this; simp at this
                  · rw [HK4.out.cell, rowOf_get _ (by have := HCN.out hnn; omega)]
                have idx : (k : Int) - (t : Int) + (f : Int) < (n0 : Int) := by
                  rcases O8.out with ⟨hnn, _, _⟩ | ⟨hnn, _⟩
                  · have := N1.out; rw [hnn] at this; simp at this
                  · have := HCN.out hnn; omega
                go_wp2
                go_round
                case rel => exact ⟨k + 1, hlt, by go_num⟩
                case measure => simp [intOf]; omega
              · by_cases x2 : f ≤ k ∧ k < f + c
                · obtain ⟨y1, y2⟩ := x2
                  have c1 : w8.cell? ⟨g1, k, none⟩ = some (.int .i32 0) := by rw [HC1.out]; simp only [mvC]; rw [if_neg x1, if_pos ⟨y1, y2⟩]
                  rcases (show k < t ∨ t + c ≤ k by omega) with y3 | y3
                  all_goals
                    first
                      | (exfalso; omega)
                      | (go_wp2
                         go_round
                         case rel => exact ⟨k + 1, hlt, by go_num⟩
                         case measure => simp [intOf]; omega)
                · have c1 : w8.cell? ⟨g1, k, none⟩ = some (.int .i32 (C k)) := by rw [HC1.out]; simp only [mvC]; rw [if_neg x1, if_neg x2]
                  rcases (show k < t ∨ t + c ≤ k by omega) with y3 | y3 <;> rcases (show k < f ∨ f + c ≤ k by omega) with y4 | y4
                  all_goals
                    first
                      | (exfalso; omega)
                      | (go_wp2
                         go_round
                         case rel => exact ⟨k + 1, hlt, by go_num⟩
                         case measure => simp [intOf]; omega)
            · go_wp2_with fail
              refine (getMarksNil w6.heap.size (.slice a1 n0 n0) none (mx us ((t : Int) + c)) (rsv (rsv sz ((f : Int) + c) cols) ((t : Int) + c) cols) wp w8 HL8.out).mono ?_
              rintro e x ⟨rfl, hx⟩
              have hx := hx.symm
              subst hx
              go_wp2
              clear HK1
              go_loop [30, 31] (fun m i => m = .int .i64 0 ∧ i = .int .i64 0) (fun _ _ => 0)
              case atStart => exact ⟨rfl, rfl⟩
              case round =>
                obtain ⟨rfl, rfl⟩ := hrel
                go_wp2_with fail
                refine (getMarksLen_nil w6.heap.size (.slice a1 n0 n0) (mx us ((t : Int) + c)) (rsv (rsv sz ((f : Int) + c) cols) ((t : Int) + c) cols) wp w8 HL8.out).mono ?_
                rintro e x ⟨rfl, hx⟩
                have hx := hx.symm
                subst hx
                go_wp2
                go_ret
                exact ⟨rfl, BF.out⟩
      · have hvk2 : ((nv : Int) == (0 : Int)) = false := by simp; omega
        go_wp2
        go_ret
        exact ⟨rfl, Below.refl _ _⟩

end Go.Proofs.Qxb6619264a.Cl
