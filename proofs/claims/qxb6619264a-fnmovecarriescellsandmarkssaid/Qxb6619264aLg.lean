import Derived.Test.Qxb6619264aLe
import Derived.Test.Qxb6619264aLf
import Derived.Test.Qxb6619264aLmAZ
import Derived.Test.Qxb6619264aLmBZ
import Derived.Test.Qxb6619264aLmAPn
import Derived.Test.Qxb6619264aLmAPs
import Derived.Test.Qxb6619264aLmAQn
import Derived.Test.Qxb6619264aLmAQs
import Derived.Test.Qxb6619264aLmBPn
import Derived.Test.Qxb6619264aLmBPs
import Derived.Test.Qxb6619264aLmBQn
import Derived.Test.Qxb6619264aLmBQs
namespace Go.Proofs.Qxb6619264a.Cl
open Go.RowKit Go.Proofs.Qxb6619264a.W

theorem law_P (a0 ak av : Option Addr) (n0 c0 nk ck nv cv : Nat) (C : Nat → Int) (K : Nat → Int) (A : Nat → Option Addr) (L Cp : Nat → Nat) (R : Nat → Nat → Int) (us sz : Int) (wp : Bool) (cols : Int) (f t c : Nat) (w : World)
    (h0 : n0 ≤ 65536) (h1 : nk ≤ 4096) (h2 : nv ≤ 4096) (z0 : a0 = none → n0 = 0) (zk : ak = none → nk = 0) (zv : av = none → nv = 0)
    (i0 : In w a0 n0 (fun i => .int .i32 (C i))) (ik : In w ak nk (fun i => .int .i64 (K i))) (iv : In w av nv (fun i => .slice (A i) (L i) (Cp i)))
    (wfK : ∀ i, i < nk → (Lit.int .i64 (K i)).wf = true) (hL : ∀ i, i < nv → L i ≤ maxLen) (hA : ∀ i, i < nv → A i = none → L i = 0) (hR : ∀ i, i < nv → In w (A i) (L i) (fun j => .int .i32 (R i j)))
    (bus : 0 ≤ us ∧ us ≤ 65535) (bsz : 0 ≤ sz ∧ sz ≤ 65535) (bcols : -9223372036854775808 ≤ cols ∧ cols ≤ 9223372036854775807)
    (hc1 : 1 ≤ c) (hfc : f + c ≤ 65535) (htc : t + c ≤ 65535) (hcn : a0 ≠ none → f + c ≤ n0 ∧ t + c ≤ n0) :
    Calls Try.prog 3 #[.slice a0 n0 c0, .slice ak nk ck, .slice av nv cv, .int .u16 us, .int .u16 sz, .bool wp, .int .i64 cols, .int .i64 f, .int .i64 t, .int .i64 c] w fun e w' => e = .returned (.bool true) ∧ Below w.heap.size w w' := by
  cases ak with
  | none =>
    obtain rfl : nk = 0 := zk rfl
    cases gn : a0.isNone with
    | true =>
      by_cases hu : us < (t : Int) + c
      · exact law_APn a0 av n0 c0 ck nv cv C K A L Cp R us sz wp cols f t c w h0 h2 z0 zv i0 iv hL hA hR bus bsz bcols hc1 hfc htc hcn hu gn
      · exact law_AQn a0 av n0 c0 ck nv cv C K A L Cp R us sz wp cols f t c w h0 h2 z0 zv i0 iv hL hA hR bus bsz bcols hc1 hfc htc hcn (by omega) gn
    | false =>
      by_cases hu : us < (t : Int) + c
      · exact law_APs a0 av n0 c0 ck nv cv C K A L Cp R us sz wp cols f t c w h0 h2 z0 zv i0 iv hL hA hR bus bsz bcols hc1 hfc htc hcn hu gn
      · exact law_AQs a0 av n0 c0 ck nv cv C K A L Cp R us sz wp cols f t c w h0 h2 z0 zv i0 iv hL hA hR bus bsz bcols hc1 hfc htc hcn (by omega) gn
  | some xk =>
    cases gn : a0.isNone with
    | true =>
      by_cases hu : us < (t : Int) + c
      · exact law_BPn a0 av n0 c0 nk ck nv cv C K A L Cp R us sz wp cols xk f t c w h0 h1 h2 z0 zk zv i0 ik iv wfK hL hA hR bus bsz bcols hc1 hfc htc hcn hu gn
      · exact law_BQn a0 av n0 c0 nk ck nv cv C K A L Cp R us sz wp cols xk f t c w h0 h1 h2 z0 zk zv i0 ik iv wfK hL hA hR bus bsz bcols hc1 hfc htc hcn (by omega) gn
    | false =>
      by_cases hu : us < (t : Int) + c
      · exact law_BPs a0 av n0 c0 nk ck nv cv C K A L Cp R us sz wp cols xk f t c w h0 h1 h2 z0 zk zv i0 ik iv wfK hL hA hR bus bsz bcols hc1 hfc htc hcn hu gn
      · exact law_BQs a0 av n0 c0 nk ck nv cv C K A L Cp R us sz wp cols xk f t c w h0 h1 h2 z0 zk zv i0 ik iv wfK hL hA hR bus bsz bcols hc1 hfc htc hcn (by omega) gn

theorem law_move (a0 ak av : Option Addr) (n0 c0 nk ck nv cv : Nat) (C : Nat → Int) (K : Nat → Int) (A : Nat → Option Addr) (L Cp : Nat → Nat) (R : Nat → Nat → Int) (us sz : Int) (wp : Bool) (cols q2 q3 q4 : Int) (w : World)
    (m0 : n0 ≤ maxLen) (m1 : nk ≤ maxLen) (m2 : nv ≤ maxLen) (z0 : a0 = none → n0 = 0) (zk : ak = none → nk = 0) (zv : av = none → nv = 0)
    (i0 : In w a0 n0 (fun i => .int .i32 (C i))) (ik : In w ak nk (fun i => .int .i64 (K i))) (iv : In w av nv (fun i => .slice (A i) (L i) (Cp i)))
    (wfK : ∀ i, i < nk → (Lit.int .i64 (K i)).wf = true) (hL : ∀ i, i < nv → L i ≤ maxLen) (hA : ∀ i, i < nv → A i = none → L i = 0) (hR : ∀ i, i < nv → In w (A i) (L i) (fun j => .int .i32 (R i j)))
    (bus : 0 ≤ us ∧ us ≤ 65535) (bsz : 0 ≤ sz ∧ sz ≤ 65535) (bcols : -9223372036854775808 ≤ cols ∧ cols ≤ 9223372036854775807) (bq2 : -9223372036854775808 ≤ q2 ∧ q2 ≤ 9223372036854775807) (bq3 : -9223372036854775808 ≤ q3 ∧ q3 ≤ 9223372036854775807) (bq4 : -9223372036854775808 ≤ q4 ∧ q4 ≤ 9223372036854775807) :
    Calls Try.prog 3 #[.slice a0 n0 c0, .slice ak nk ck, .slice av nv cv, .int .u16 us, .int .u16 sz, .bool wp, .int .i64 cols, .int .i64 q2, .int .i64 q3, .int .i64 q4] w fun e w' => e = .returned (.bool true) ∧ Below w.heap.size w w' := by
  by_cases hb : n0 ≤ 65536 ∧ nk ≤ 4096 ∧ nv ≤ 4096
  · obtain ⟨h0, h1, h2⟩ := hb
    by_cases hc : q4 ≤ 0
    · cases ak with
      | none =>
        obtain rfl : nk = 0 := zk rfl
        exact law_AZ a0 av n0 c0 ck nv cv C K A L Cp R us sz wp cols q2 q3 q4 w h0 h2 z0 zv i0 iv hL hA hR bus bsz bcols hc bq4.1
      | some xk =>
        exact law_BZ a0 av n0 c0 nk ck nv cv C K A L Cp R us sz wp cols xk q2 q3 q4 w h0 h1 h2 z0 zk zv i0 ik iv wfK hL hA hR bus bsz bcols hc bq4.1
    · by_cases hcl : cols ≤ 65535
      · by_cases hG : (q4 ≤ 65535 ∧ 0 ≤ q2 ∧ 0 ≤ q3 ∧ q2 ≤ 65535 - q4 ∧ q3 ≤ 65535 - q4) ∧ (a0 ≠ none → q2 ≤ (n0 : Int) - q4 ∧ q3 ≤ (n0 : Int) - q4)
        · obtain ⟨⟨g1, g2, g3, g4, g5⟩, g6⟩ := hG
          obtain ⟨f, rfl⟩ : ∃ f : Nat, q2 = f := ⟨q2.toNat, by omega⟩
          obtain ⟨t, rfl⟩ : ∃ t : Nat, q3 = t := ⟨q3.toNat, by omega⟩
          obtain ⟨c, rfl⟩ : ∃ c : Nat, q4 = c := ⟨q4.toNat, by omega⟩
          exact law_P a0 ak av n0 c0 nk ck nv cv C K A L Cp R us sz wp cols f t c w h0 h1 h2 z0 zk zv i0 ik iv wfK hL hA hR bus bsz bcols (by omega) (by omega) (by omega) (fun h => by have := g6 h; omega)
        · refine early2 a0 ak av n0 c0 nk ck nv cv C K A L Cp R us sz wp cols q2 q3 q4 w h0 h1 h2 z0 zk zv i0 ik iv wfK hL hA hR bus bsz bcols bq2 bq3 bq4 (by omega) hcl ?_
          by_cases h1 : q4 ≤ 65535 ∧ 0 ≤ q2 ∧ 0 ≤ q3 ∧ q2 ≤ 65535 - q4 ∧ q3 ≤ 65535 - q4
          · right
            by_cases h2 : a0 = none
            · exact absurd ⟨h1, fun h => absurd h2 h⟩ hG
            · exact ⟨h2, fun h3 => hG ⟨h1, fun _ => h3⟩⟩
          · exact .inl h1
      · exact early3 a0 ak av n0 c0 nk ck nv cv C K A L Cp R us sz wp cols q2 q3 q4 w h0 h1 h2 z0 zk zv i0 ik iv wfK hL hA hR bus bsz bcols bq2 bq3 bq4 (by omega)
  · exact early1 a0 ak av n0 c0 nk ck nv cv C K A L Cp R us sz wp cols q2 q3 q4 w m0 m1 m2 hb z0 zk zv i0 ik iv wfK hL hA hR bus bsz bcols bq2 bq3 bq4

end Go.Proofs.Qxb6619264a.Cl
