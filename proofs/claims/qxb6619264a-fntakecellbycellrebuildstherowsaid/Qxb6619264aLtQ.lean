import Derived.Test.Qxb6619264aTe
import Derived.Test.Qxb6619264aMx
namespace Go.Proofs.Qxb6619264a.Tk
open Go.RowKit Go.Proofs.Qxb6619264a.W Go.Proofs.Qxb6619264a.Cl
set_option linter.unusedVariables false

set_option maxRecDepth 20000 in
set_option maxHeartbeats 16000000 in
theorem law_Q (a0 ak av : Option Addr) (n0 c0 nk ck nv cv : Nat) (C : Nat → Int) (K : Nat → Int) (A : Nat → Option Addr) (L Cp : Nat → Nat) (R : Nat → Nat → Int) (cols : Int) (w : World)
    (h0 : n0 ≤ 65535) (h1 : nk ≤ 4096) (h2 : nv ≤ 4096) (z0 : a0 = none → n0 = 0) (zk : ak = none → nk = 0) (zv : av = none → nv = 0)
    (i0 : In w a0 n0 (fun i => .int .i32 (C i))) (ik : In w ak nk (fun i => .int .i64 (K i))) (iv : In w av nv (fun i => .slice (A i) (L i) (Cp i)))
    (wfK : ∀ i, i < nk → (Lit.int .i64 (K i)).wf = true) (hL : ∀ i, i < nv → L i ≤ maxLen) (hA : ∀ i, i < nv → A i = none → L i = 0) (hR : ∀ i, i < nv → In w (A i) (L i) (fun j => .int .i32 (R i j)))
    (bc0 : -9223372036854775808 ≤ cols) (hcn : cols ≤ n0) :
    Calls Try.prog 5 #[.slice a0 n0 c0, .slice ak nk ck, .slice av nv cv, .int .i64 cols] w fun e w' => e = .returned (.bool true) ∧ Below w.heap.size w w' := by
  have HI0 : Hid (In w a0 n0 (fun i => .int .i32 (C i)) ∧ (a0 = none → n0 = 0)) := ⟨i0, z0⟩
  have HIk : Hid (In w ak nk (fun i => .int .i64 (K i)) ∧ (ak = none → nk = 0)) := ⟨ik, zk⟩
  have HIv : Hid (In w av nv (fun i => .slice (A i) (L i) (Cp i)) ∧ (av = none → nv = 0)) := ⟨iv, zv⟩
  have HLm : Hid (∀ i, i < nv → L i ≤ maxLen) := hL
  have HAR : Hid ((∀ i, i < nv → A i = none → L i = 0) ∧ ∀ i, i < nv → In w (A i) (L i) (fun j => .int .i32 (R i j))) := ⟨hA, hR⟩
  have HWK : Hid (∀ i, i < nk → (Lit.int .i64 (K i)).wf = true) := wfK
  clear i0 ik iv z0 zk zv hL hA hR wfK
  go_enter Try.func5, Try.ntmps5
  go_wp2_with fail
  refine (bytesT a0 ak av n0 c0 nk ck nv cv A L Cp cols w (by unfold maxLen; omega) (by unfold maxLen; omega) (by unfold maxLen; omega) HIv.out.1 HLm.out).mono ?_
  rintro e w' ⟨b, rfl, hw⟩
  have hw := hw.symm
  subst hw
  cases b with
  | false =>
    go_wp2
    go_ret
    exact ⟨rfl, Below.refl _ _⟩
  | true =>
    go_wp2_with fail
    refine (lineBytes a0 ak av n0 c0 nk ck nv cv A L Cp w (by omega) (by omega) (by omega) HIv.out.1 HLm.out).mono ?_
    rintro e w' ⟨r, rfl, hw, hsh⟩
    have hw := hw.symm
    subst hw
    by_cases hr : 1048576 < r
    · go_wp2
      go_ret
      exact ⟨rfl, Below.refl _ _⟩
    · have HL : Hid (∀ i, i < nv → L i ≤ 1048576) := hsh (by omega)
      clear hsh
      by_cases hvk : nk = nv
      · subst hvk
        go_wp2_with fail
        refine (cloneR a0 n0 c0 C w (by omega) HI0.out.2 HI0.out.1).mono ?_
        rintro e w1 ⟨v1, rfl, b1, o1⟩
        obtain ⟨a1, hv1, hn1, in1⟩ := o1.isIn
        subst hv1
        have O1 : Hid (Own w1 w.heap.size w1.heap.size 21 (.slice a1 n0 n0) a0.isNone n0 (fun i => .int .i32 (C i))) := o1
        have N1 : Hid (a0.isNone = a1.isNone) := hn1
        have I1 : Hid (In w1 a1 n0 (fun i => .int .i32 (C i))) := in1
        clear o1 hn1 in1
        go_wp2_with fail
        refine (cloneK ak nk ck K w1 (by omega) HIk.out.2 (HIk.out.1.below b1)).mono ?_
        rintro e w2 ⟨v2, rfl, b2, o2⟩
        obtain ⟨a2, hv2, hn2, in2⟩ := o2.isIn
        subst hv2
        have I2 : Hid (In w2 a2 nk (fun i => .int .i64 (K i))) := in2
        have Z2 : Hid (a2 = none → nk = 0) := fun h => HIk.out.2 (by rw [h] at hn2; simpa using hn2)
        clear o2 in2 hn2
        have b02 : Below w.heap.size w w2 := b1.trans (b2.mono b1.size)
        go_wp2_with fail
        refine (cloneRows av nk cv A L Cp R w2 (by omega) HIv.out.2 (HIv.out.1.below b02) HL.out HAR.out.1 (fun i hi => (HAR.out.2 i hi).below b02)).mono ?_
        rintro e w3 ⟨v3, V3, rfl, b3, o3, p3⟩
        obtain ⟨a3, hv3, hn3, in3⟩ := o3.isIn
        subst hv3
        have I3 : Hid (In w3 a3 nk V3) := in3
        have P3 : Hid (∀ i, i < nk → Own w3 w2.heap.size w3.heap.size 21 (V3 i) (A i).isNone (L i) (fun j => .int .i32 (R i j))) := p3
        have N3 : Hid (av.isNone = a3.isNone) := hn3
        clear in3 p3 o3 hn3
        have b13 : Below w1.heap.size w1 w3 := b2.trans (b3.mono b2.size)
        go_wp2_with fail
        refine (cloneR a1 n0 n0 C w3 (by omega) (fun h => HI0.out.2 (by have := N1.out; rw [h] at this; simpa using this)) (I1.out.below b13)).mono ?_
        rintro e w4 ⟨v4, rfl, b4, o4⟩
        obtain ⟨a4, hv4, hn4, in4⟩ := o4.isIn
        subst hv4
        have O4 : Hid (Own w4 w3.heap.size w4.heap.size 21 (.slice a4 n0 n0) a1.isNone n0 (fun i => .int .i32 (C i))) := o4
        clear o4 hn4 in4
        have b24 : Below w2.heap.size w2 w4 := b3.trans (b4.mono b3.size)
        go_wp2_with fail
        refine (cloneK a2 nk nk K w4 (by omega) Z2.out (I2.out.below b24)).mono ?_
        rintro e w5 ⟨v5, rfl, b5, o5⟩
        obtain ⟨a5, hv5, hn5, in5⟩ := o5.isIn
        subst hv5
        have O5 : Hid (Own w5 w4.heap.size w5.heap.size 3 (.slice a5 nk nk) a2.isNone nk (fun i => .int .i64 (K i))) := o5
        clear o5 in5 hn5
        have b35 : Below w3.heap.size w3 w5 := b4.trans (b5.mono b4.size)
        go_wp2_with fail
        refine (cloneRows a3 nk nk (fun i => aOf (V3 i)) L L R w5 (by omega) (fun h => HIv.out.2 (by have := N3.out; rw [h] at this; simpa using this)) (in_congr (I3.out.below b35) (fun i hi => ((owns_in P3.out i hi).1))) HL.out
          (fun i hi h => HAR.out.1 i hi (by have := (owns_in P3.out i hi).2.1; rw [h] at this; simpa using this)) (fun i hi => ((owns_in P3.out i hi).2.2).below b35)).mono ?_
        rintro e w6 ⟨v6, V6, rfl, b6, o6, p6⟩
        obtain ⟨a6, hv6, hn6, in6⟩ := o6.isIn
        subst hv6
        have O6 : Hid (Own w6 w5.heap.size w6.heap.size 22 (.slice a6 nk nk) a3.isNone nk V6) := o6
        have P6 : Hid (∀ i, i < nk → Own w6 w5.heap.size w6.heap.size 21 (V6 i) (aOf (V3 i)).isNone (L i) (fun j => .int .i32 (R i j))) := p6
        clear in6 p6 o6 hn6
        have s01 := b1.size
        have s12 := b2.size
        have s23 := b3.size
        have s34 := b4.size
        have s45 := b5.size
        have s56 := b6.size
        have b36 : Below w3.heap.size w3 w6 := b35.trans (b6.mono (by omega))
        have b06 : Below w.heap.size w w6 := (b1.trans ((b13.trans (b36.mono (by omega))).mono (by omega)))
        go_wp2_with fail
        refine (zzline_nil none 0 0 0 none 0 0 0 0 false w6).mono ?_
        rintro e w7 ⟨rfl, b7, s67, l7⟩
        have HL7 : Hid (Line w7 w6.heap.size (.slice none 0 0) (.map none) 0 0 false) := l7
        have s67a : w6.heap.size + 1 ≤ w7.heap.size := by omega
        clear l7 s67
        have b37 : Below w3.heap.size w3 w7 := b36.trans (b7.mono (by omega))
        have b27 : Below w2.heap.size w2 w7 := b3.trans (b37.mono (by omega))
        have b17 : Below w1.heap.size w1 w7 := b2.trans (b27.mono (by omega))
        go_wp2_with fail
        refine (from_line a1 n0 a2 nk a3 C K (fun i => aOf (V3 i)) L w.heap.size w1.heap.size w6.heap.size a0.isNone w7 (by omega) HWK.out Z2.out (I2.out.below b27) (in_congr (I3.out.below b37) (fun i hi => (owns_in P3.out i hi).1)) (O1.out.below b17) (by omega) (by omega)).mono ?_
        rintro e w8 ⟨rfl, b8, s78, f8⟩
        have HF8 : Hid (From w8 w6.heap.size w7.heap.size w8.heap.size n0 a1 C (lastV K (fun i => .slice (aOf (V3 i)) (L i) (L i)) nk)) := f8
        have HSL : Hid (Sl (lastV K (fun i => .slice (aOf (V3 i)) (L i) (L i)) nk)) := sl_lastV (fun i hi h => HAR.out.1 i hi (by have := (owns_in P3.out i hi).2.1; rw [h] at this; simpa using this))
        have HST : Hid (St w8 w8 w6.heap.size w8.heap.size cols C (lastV K (fun i => .slice (aOf (V3 i)) (L i) (L i)) nk) 0) := st_start (HL7.out.fr (Fr.ofBelow (S := fun _ => False) b8) (fun h => h))
        have b78 : Below w6.heap.size w6 w8 := b7.trans (b8.mono (by omega))
        have B08 : Hid (Below w.heap.size w w8) := b06.trans (b78.mono (by omega))
        have b58 : Below w5.heap.size w5 w8 := b6.trans (b78.mono (by omega))
        have b48 : Below w4.heap.size w4 w8 := b5.trans (b58.mono (by omega))
        have O48 : Hid (Own w8 w3.heap.size w4.heap.size 21 (.slice a4 n0 n0) a1.isNone n0 (fun i => .int .i32 (C i))) := O4.out.below b48
        have O58 : Hid (Own w8 w4.heap.size w5.heap.size 3 (.slice a5 nk nk) a2.isNone nk (fun i => .int .i64 (K i))) := O5.out.below b58
        have O68 : Hid (Own w8 w5.heap.size w6.heap.size 22 (.slice a6 nk nk) a3.isNone nk V6) := O6.out.below b78
        have P68 : Hid (∀ i, i < nk → Own w8 w5.heap.size w6.heap.size 21 (V6 i) (aOf (V3 i)).isNone (L i) (fun j => .int .i32 (R i j))) := fun i hi => (P6.out i hi).below b78
        have P38 : Hid (∀ i, i < nk → Own w8 w2.heap.size w3.heap.size 21 (V3 i) (A i).isNone (L i) (fun j => .int .i32 (R i j))) := fun i hi => ((P3.out i hi).below b36).below b78
        clear f8 b1 b2 b3 b4 b5 b6 b7 b8 b02 b13 b24 b35 b36 b06 b37 b27 b17 b78 b58 b48 O1 O4 O5 O6 P3 P6 I1 I2 I3 N1 N3 Z2 HL7 HI0 HIk HIv HLm HAR
        go_wp2
        go_loopw [15] (fun i wr => ∃ k : Nat, k ≤ n0 ∧ i = .int .i64 k ∧ St w8 wr w6.heap.size w8.heap.size cols C (lastV K (fun i => .slice (aOf (V3 i)) (L i) (L i)) nk) k) (fun i _ => n0 - (intOf i).toNat)
        case atStart => exact ⟨0, Nat.zero_le _, rfl, HST.out⟩
        case round =>
          obtain ⟨k, hk, rfl, hst⟩ := hrel
          have HSTr : Hid (St w8 wr w6.heap.size w8.heap.size cols C (lastV K (fun i => .slice (aOf (V3 i)) (L i) (L i)) nk) k) := hst
          clear hst HST
          by_cases hlt : k < n0
          · go_wp2_with fail
            refine (zztake w6.heap.size w7.heap.size w8.heap.size n0 a1 C (lastV K (fun i => .slice (aOf (V3 i)) (L i) (L i)) nk) cols k w8 wr HSTr.out HF8.out HSL.out hlt h0 (by omega) (by omega) (by omega) (Nat.le_refl _) (by omega) bc0).mono ?_
            rintro e wr2 ⟨rfl, hst2⟩
            have HST2 : Hid (St w8 wr2 w6.heap.size w8.heap.size cols C (lastV K (fun i => .slice (aOf (V3 i)) (L i) (L i)) nk) (k + 1)) := hst2
            clear hst2
            go_wp2
            go_roundw
            case rel => exact ⟨k + 1, hlt, by go_num, HST2.out⟩
            case measure => simp [intOf]; omega
          · have hkn : n0 = k := by omega
            subst hkn
            rename World => wz
            clear hlt hk
            obtain ⟨hfr, ga, gn, gc, vm, hl, hend⟩ := HSTr.out
            have HLr : Hid (Line wz w6.heap.size (.slice ga gn gc) (.map vm) (n0 : Int) (szT cols n0) false) := hl
            have FR : Hid (Fr (tkS w6.heap.size w8.heap.size) w8 wz) := hfr
            have HB : Hid (Below w.heap.size w wz) := B08.out.trans (hfr.below (by omega) (fun k h1 h2 => by unfold tkS at h2; omega))
            clear hl hfr HSTr HF8 HSL
            go_wp2_with fail
            refine (getCells w6.heap.size ga gn gc (.map vm) (n0 : Int) (szT cols n0) false wz HLr.out).mono ?_
            rintro e x ⟨rfl, hx⟩
            have hx := hx.symm
            subst hx
            rcases hend with ⟨z, rfl, rfl, rfl, rfl⟩ | ⟨hpos, hgn, g, rfl, hr, hmk⟩
            · subst z
              have HLz : Hid (Line wz w6.heap.size (.slice none 0 0) (.map none) 0 0 false) := HLr.out
              have q1 := fun w => Lib.run_eql_slice_nil (P := Try.prog) w 22 21 none 0 0 0 0 Try.underlying22
              clear HLr
              go_wp2_with fail
              refine (getMarksNil w6.heap.size (.slice none 0 0) none 0 0 false wz HLz.out).mono ?_
              rintro e x ⟨rfl, hx⟩
              have hx := hx.symm
              subst hx
              go_wp2_with fail
              refine (getUsed w6.heap.size (.slice none 0 0) (.map none) 0 0 false wz HLz.out).mono ?_
              rintro e x ⟨rfl, hx⟩
              have hx := hx.symm
              subst hx
              go_wp2_with fail
              refine (getSize w6.heap.size (.slice none 0 0) (.map none) 0 0 false wz HLz.out).mono ?_
              rintro e x ⟨rfl, hx⟩
              have hx := hx.symm
              subst hx
              go_wp2_with fail
              refine (getWrapped w6.heap.size (.slice none 0 0) (.map none) 0 0 false wz HLz.out).mono ?_
              rintro e x ⟨rfl, hx⟩
              have hx := hx.symm
              subst hx
              go_wp2
              go_ret
              exact ⟨rfl, HB.out⟩
            · have hgn2 : n0 = gn := by rw [hgn]; unfold lenT; (repeat' split) <;> omega
              subst hgn2
              clear hgn
              have HR : Hid (Row wz w8.heap.size g gc n0 (fillR C n0)) := hr
              have HA : Hid (Ask wz w6.heap.size (cT K (fun i => .slice (aOf (V3 i)) (L i) (L i)) nk n0 nk) n0 (lastV K (fun i => .slice (aOf (V3 i)) (L i) (L i)) nk)) := asks hmk HLr.out
              clear hr hmk
              have O4z : Hid (Own wz w3.heap.size w4.heap.size 21 (.slice a4 n0 n0) a1.isNone n0 (fun i => .int .i32 (C i))) := O48.out.fr FR.out (fun k h1 h2 h3 => by unfold tkS at h3; omega)
              have O5z : Hid (Own wz w4.heap.size w5.heap.size 3 (.slice a5 nk nk) a2.isNone nk (fun i => .int .i64 (K i))) := O58.out.fr FR.out (fun k h1 h2 h3 => by unfold tkS at h3; omega)
              have O6z : Hid (Own wz w5.heap.size w6.heap.size 22 (.slice a6 nk nk) a3.isNone nk V6) := O68.out.fr FR.out (fun k h1 h2 h3 => by unfold tkS at h3; omega)
              have P6z : Hid (∀ i, i < nk → Own wz w5.heap.size w6.heap.size 21 (V6 i) (aOf (V3 i)).isNone (L i) (fun j => .int .i32 (R i j))) := fun i hi => (P68.out i hi).fr FR.out (fun k h1 h2 h3 => by unfold tkS at h3; omega)
              have P3z : Hid (∀ i, i < nk → Own wz w2.heap.size w3.heap.size 21 (V3 i) (A i).isNone (L i) (fun j => .int .i32 (R i j))) := fun i hi => (P38.out i hi).fr FR.out (fun k h1 h2 h3 => by unfold tkS at h3; omega)
              clear O48 O58 O68 P68 P38 FR B08
              rcases O4z.out with ⟨_, hz, _⟩ | ⟨_, g4, hg4, hg4', hv4, kb4⟩
              · omega
              simp only [Value.slice.injEq, and_true] at hv4
              subst hv4
              have HK4 : Hid (Blk wz g4 21 (rowOf (fun i => .int .i32 (C i)) n0)) := kb4
              clear kb4 O4z hg4 hg4'
              have q1 := fun w => Lib.run_eql_slice_nil (P := Try.prog) w 22 21 (some ⟨g, 0, none⟩) n0 gc 0 0 Try.underlying22
              have hn0 : ((n0 : Int) == 0) = false := by simp; omega
              go_wp2
              go_loop [18] (fun i => ∃ k : Nat, k ≤ n0 ∧ i = .int .i64 k) (fun i => n0 - (intOf i).toNat)
              case atStart => exact ⟨0, Nat.zero_le _, rfl⟩
              case round =>
                obtain ⟨k, hk, rfl⟩ := hrel
                by_cases hlt : k < n0
                · by_cases hk0 : k < n0
                  · have c1 : wz.cell? ⟨g, k, none⟩ = some (.int .i32 (C k)) := by rw [HR.out.cell hlt]; unfold fillR; rw [if_pos hk0]
                    have c4 : wz.cell? ⟨g4, k, none⟩ = some (.int .i32 (C k)) := by rw [HK4.out.cell, rowOf_get _ hk0]
                    go_wp2
                    go_round
                    case rel => exact ⟨k + 1, hlt, by go_num⟩
                    case measure => simp [intOf]; omega
                  · exact absurd hlt hk0
                · have hkn : n0 = k := by omega
                  subst hkn
                  clear hk hlt
                  go_wp2
                  go_loop [20, 21] (fun z i => ∃ j : Nat, j ≤ n0 ∧ i = .int .i64 ((j : Int) + 1) ∧ z = .int .u16 (szT cols j)) (fun _ i => n0 + 1 - (intOf i).toNat)
                  case atStart => exact ⟨0, Nat.zero_le _, rfl, rfl⟩
                  case round =>
                    obtain ⟨j, hj, rfl, rfl⟩ := hrel
                    by_cases hlt : j < n0
                    · obtain ⟨y0, y1⟩ := szT_bd (cols := cols) (by omega) j (by omega)
                      go_wp2_with fail
                      refine (reserve (szT cols j) ((j : Int) + 1) cols wz y0 y1 (by omega) (by omega) (by omega) bc0).mono ?_
                      rintro e x ⟨rfl, hx⟩
                      have hx := hx.symm
                      subst hx
                      go_wp2
                      go_round
                      case rel => exact ⟨j + 1, hlt, by go_num, rfl⟩
                      case measure => simp [intOf]; omega
                    · have hkn : n0 = j := by omega
                      subst hkn
                      clear hj hlt
                      go_wp2_with fail
                      refine (getUsed w6.heap.size (.slice (some ⟨g, 0, none⟩) n0 gc) (.map vm) (n0 : Int) (szT cols n0) false wz HLr.out).mono ?_
                      rintro e x ⟨rfl, hx⟩
                      have hx := hx.symm
                      subst hx
                      go_wp2_with fail
                      refine (getSize w6.heap.size (.slice (some ⟨g, 0, none⟩) n0 gc) (.map vm) (n0 : Int) (szT cols n0) false wz HLr.out).mono ?_
                      rintro e x ⟨rfl, hx⟩
                      have hx := hx.symm
                      subst hx
                      go_wp2_with fail
                      refine (getWrapped w6.heap.size (.slice (some ⟨g, 0, none⟩) n0 gc) (.map vm) (n0 : Int) (szT cols n0) false wz HLr.out).mono ?_
                      rintro e x ⟨rfl, hx⟩
                      have hx := hx.symm
                      subst hx
                      clear HLr HR HK4
                      go_wp2
                      go_loopw [22, 23] (fun m i wr => ∃ k : Nat, k ≤ nk ∧ i = .int .i64 k ∧ m = .int .i64 (cT K (fun i => .slice (aOf (V3 i)) (L i) (L i)) nk n0 k) ∧ Below wz.heap.size wz wr) (fun _ i _ => nk - (intOf i).toNat)
                      case atStart => exact ⟨0, Nat.zero_le _, rfl, rfl, Below.refl _ _⟩
                      case round =>
                        obtain ⟨k, hk2, rfl, rfl, hbr⟩ := hrel
                        have hcl : (cT K (fun i => .slice (aOf (V3 i)) (L i) (L i)) nk n0 k : Int) ≤ k := by have := cnt_le K nk (dstT (lastV K (fun i => .slice (aOf (V3 i)) (L i) (L i)) nk) n0) k; unfold cT; omega
                        by_cases hlt2 : k < nk
                        · rcases O5z.out with ⟨_, hz, _⟩ | ⟨_, g5, hg5, hg5', hv5, kb5⟩
                          · omega
                          simp only [Value.slice.injEq, and_true] at hv5
                          subst hv5
                          have HKr : Hid (Blk wr g5 3 (rowOf (fun i => .int .i64 (K i)) nk)) := kb5.below hbr kb5.lt
                          clear kb5
                          have ck : wr.cell? ⟨g5, k, none⟩ = some (.int .i64 (K k)) := by rw [HKr.out.cell, rowOf_get _ hlt2]
                          have hwk := HWK.out k hlt2
                          obtain ⟨bk0, bk1⟩ := wf64 hwk
                          have HWk : Hid ((Lit.int .i64 (K k)).wf = true) := hwk
                          clear hwk
                          go_wp2_with fail
                          refine (lastIndex g5 nk nk K (K k) wr (by omega) (fun i hi => by rw [HKr.out.cell, rowOf_get _ hi])).mono ?_
                          rintro e x ⟨rfl, hx⟩
                          have hx := hx.symm
                          subst hx
                          by_cases hli : lastIx K (K k) nk = k
                          · have li1 : (lastIx K (K k) nk == (k : Int)) = true := by simp [hli]
                            have li2 : lastIx K (K k) nk ≤ k := by omega
                            have li3 : (k : Int) ≤ lastIx K (K k) nk := by omega
                            have HLI : Hid (lastIx K (K k) nk = k) := hli
                            clear hli
                            have HFV : Hid ((lastV K (fun i => .slice (aOf (V3 i)) (L i) (L i)) nk) (K k) = some (.slice (aOf (V3 k)) (L k) (L k))) := lastV_at K _ (K k) nk k HLI.out
                            have HSK : Hid (gk (lastV K (fun i => .slice (aOf (V3 i)) (L i) (L i)) nk) n0 (K k) = none → cT K (fun i => .slice (aOf (V3 i)) (L i) (L i)) nk n0 (k + 1) = cT K (fun i => .slice (aOf (V3 i)) (L i) (L i)) nk n0 k) := fun h => by
                              have e : sel K nk (dstT (lastV K (fun i => .slice (aOf (V3 i)) (L i) (L i)) nk) n0) k = none := by unfold sel; rw [if_pos HLI.out]; unfold dstT; rw [h]; rfl
                              simp [cT, cnt, e]
                            by_cases x1 : K k < 0
                            · have HCN1 : Hid (cT K (fun i => .slice (aOf (V3 i)) (L i) (L i)) nk n0 (k + 1) = cT K (fun i => .slice (aOf (V3 i)) (L i) (L i)) nk n0 k) := HSK.out (by unfold gk; rw [if_neg (by omega)])
                              go_wp2
                              go_roundw
                              case rel => exact ⟨k + 1, hlt2, by go_num, by rw [HCN1.out], hbr⟩
                              case measure => simp [intOf]; omega
                            · by_cases x2 : (n0 : Int) ≤ K k
                              · have HCN1 : Hid (cT K (fun i => .slice (aOf (V3 i)) (L i) (L i)) nk n0 (k + 1) = cT K (fun i => .slice (aOf (V3 i)) (L i) (L i)) nk n0 k) := HSK.out (by unfold gk; rw [if_neg (by omega)])
                                go_wp2
                                go_roundw
                                case rel => exact ⟨k + 1, hlt2, by go_num, by rw [HCN1.out], hbr⟩
                                case measure => simp [intOf]; omega
                              · rcases O6z.out with ⟨_, hz, _⟩ | ⟨_, g6, hg6, hg6', hv6, kb6⟩
                                · omega
                                simp only [Value.slice.injEq, and_true] at hv6
                                subst hv6
                                have cv6 : wr.cell? ⟨g6, k, none⟩ = some (.slice (aOf (V6 k)) (L k) (L k)) := by
                                  rw [(kb6.below hbr kb6.lt).cell, rowOf_get _ hlt2, ← (owns_in P6z.out k hlt2).1]
                                clear kb6
                                obtain ⟨_, hnn, hin6⟩ := owns_in P6z.out k hlt2
                                obtain ⟨_, _, hin3⟩ := owns_in P3z.out k hlt2
                                have HSAME : Hid (∀ w, Below wz.heap.size wz w → Calls Try.prog 21 #[.slice (aOf (V3 k)) (L k) (L k), .slice (aOf (V6 k)) (L k) (L k)] w fun e w' => e = .returned (.bool true) ∧ Below w.heap.size w w') := fun w hb =>
                                  same (aOf (V3 k)) (aOf (V6 k)) (L k) (L k) (L k) (R k) w (HL.out k hlt2) hnn (hin3.below hb) (hin6.below hb)
                                clear hin6 hin3
                                obtain ⟨y6, hy6⟩ : ∃ y, aOf (V6 k) = y := ⟨_, rfl⟩
                                obtain ⟨y3, hy3⟩ : ∃ y, aOf (V3 k) = y := ⟨_, rfl⟩
                                rw [hy6] at cv6 HSAME hnn
                                rw [hy3] at HFV HSAME hnn
                                clear hy6 hy3
                                have q6 := fun w => Lib.run_eql_slice_nil (P := Try.prog) w 22 21 y6 (L k) (L k) 0 0 Try.underlying22
                                cases y6 with
                                | none =>
                                  cases y3 with
                                  | some y3 => cases hnn
                                  | none =>
                                    have HCN1 : Hid (cT K (fun i => .slice (aOf (V3 i)) (L i) (L i)) nk n0 (k + 1) = cT K (fun i => .slice (aOf (V3 i)) (L i) (L i)) nk n0 k) := HSK.out (by unfold gk; rw [if_pos (by omega), HFV.out]; rfl)
                                    go_wp2
                                    go_roundw
                                    case rel => exact ⟨k + 1, hlt2, by go_num, by rw [HCN1.out], hbr⟩
                                    case measure => simp [intOf]; omega
                                | some y6 =>
                                  cases y3 with
                                  | none => cases hnn
                                  | some y3 =>
                                    have HCN1 : Hid (cT K (fun i => .slice (aOf (V3 i)) (L i) (L i)) nk n0 (k + 1) = cT K (fun i => .slice (aOf (V3 i)) (L i) (L i)) nk n0 k + 1) := by
                                      have e : sel K nk (dstT (lastV K (fun i => .slice (aOf (V3 i)) (L i) (L i)) nk) n0) k = some (K k) := by unfold sel; rw [if_pos HLI.out]; unfold dstT gk; rw [if_pos (show 0 ≤ K k ∧ K k < (n0 : Int) by omega), HFV.out]; rfl
                                      simp [Hid, cT, cnt, e]
                                    go_wp2_with fail
                                    refine ((HA.out wr hbr).2.2 (K k) y3 (L k) (L k) HWk.out (by omega) (by omega) HFV.out).mono ?_
                                    rintro e x ⟨rfl, hx⟩
                                    have hx := hx.symm
                                    subst hx
                                    go_wp2_with fail
                                    refine (HSAME.out wr hbr).mono ?_
                                    rintro e w9 ⟨rfl, hb9⟩
                                    have hbr9 : Below wz.heap.size wz w9 := hbr.trans (hb9.mono hbr.size)
                                    clear hb9
                                    go_wp2
                                    go_roundw
                                    case rel => exact ⟨k + 1, hlt2, by go_num, by rw [HCN1.out]; go_num, hbr9⟩
                                    case measure => simp [intOf]; omega
                          · have li1 : (lastIx K (K k) nk == (k : Int)) = false := by simp [hli]
                            have li2 : (lastIx K (K k) nk != (k : Int)) = true := by simp [hli]
                            have HCN1 : Hid (cT K (fun i => .slice (aOf (V3 i)) (L i) (L i)) nk n0 (k + 1) = cT K (fun i => .slice (aOf (V3 i)) (L i) (L i)) nk n0 k) := by simp [Hid, cT, cnt, sel, hli]
                            clear hli
                            go_wp2
                            go_roundw
                            case rel => exact ⟨k + 1, hlt2, by go_num, by rw [HCN1.out], hbr⟩
                            case measure => simp [intOf]; omega
                        · have hkn : nk = k := by omega
                          subst hkn
                          have A18 := (HA.out wr hbr).1
                          have HA22 : Hid (Calls Try.prog 22 #[.pointer (some ⟨w6.heap.size, 0, none⟩)] wr fun e w' => e = .returned (.int .i64 (cT K (fun i => .slice (aOf (V3 i)) (L i) (L i)) nk n0 nk)) ∧ w' = wr) := (HA.out wr hbr).2.1
                          have hszs := HB.out.size
                          by_cases hcz : cT K (fun i => .slice (aOf (V3 i)) (L i) (L i)) nk n0 nk = 0
                          · have hce : ((cT K (fun i => .slice (aOf (V3 i)) (L i) (L i)) nk n0 nk : Nat) : Int) = 0 := by omega
                            have hcb : (((cT K (fun i => .slice (aOf (V3 i)) (L i) (L i)) nk n0 nk : Nat) : Int) == 0) = true := by simp [hce]
                            rw [decide_eq_true hcz] at A18
                            have HA18 : Hid (Calls Try.prog 18 #[.pointer (some ⟨w6.heap.size, 0, none⟩)] wr fun e w' => e = .returned (.bool true) ∧ w' = wr) := A18
                            clear A18 HA
                            go_wp2_with fail
                            refine HA18.out.mono ?_
                            rintro e x ⟨rfl, hx⟩
                            have hx := hx.symm
                            subst hx
                            go_wp2_with fail
                            refine HA22.out.mono ?_
                            rintro e x ⟨rfl, hx⟩
                            have hx := hx.symm
                            subst hx
                            go_wp2
                            go_ret
                            exact ⟨ret_bool (by simp), HB.out.trans (hbr.mono hszs)⟩
                          · have hcb : (((cT K (fun i => .slice (aOf (V3 i)) (L i) (L i)) nk n0 nk : Nat) : Int) == 0) = false := by simp; omega
                            rw [decide_eq_false hcz] at A18
                            have HA18 : Hid (Calls Try.prog 18 #[.pointer (some ⟨w6.heap.size, 0, none⟩)] wr fun e w' => e = .returned (.bool false) ∧ w' = wr) := A18
                            clear A18 HA
                            go_wp2_with fail
                            refine HA18.out.mono ?_
                            rintro e x ⟨rfl, hx⟩
                            have hx := hx.symm
                            subst hx
                            go_wp2_with fail
                            refine HA22.out.mono ?_
                            rintro e x ⟨rfl, hx⟩
                            have hx := hx.symm
                            subst hx
                            go_wp2
                            go_ret
                            exact ⟨ret_bool (by simp), HB.out.trans (hbr.mono hszs)⟩
      · have hvk2 : ((nv : Int) == (nk : Int)) = false := by simp; omega
        go_wp2
        go_ret
        exact ⟨rfl, Below.refl _ _⟩

end Go.Proofs.Qxb6619264a.Tk
