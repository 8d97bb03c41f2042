import Derived.Test.Qxb6619264aMwA
import Derived.Test.Qxb6619264aMwB1
import Derived.Test.Qxb6619264aMwB2
import Derived.Test.Qxb6619264aMwC1
import Derived.Test.Qxb6619264aMwC2
import Derived.Test.Qxb6619264aMwC0a
import Derived.Test.Qxb6619264aMwC0b
namespace Go.Proofs.Qxb6619264a.Cl
open Go.RowKit Go.Proofs.Qxb6619264a.W

theorem move_n (gl : Nat) (vc : Value) (nil : Bool) (n : Nat) (C : Nat → Int) (B T : Nat) (us sz : Int) (wp : Bool) (cols : Int) (f t c : Nat) (w : World)
    (hl : Line w gl vc (.map none) us sz wp) (ho : Own w B T 21 vc nil n (fun i => .int .i32 (C i))) (hgl : T ≤ gl) (h0 : 0 ≤ sz) (h1 : sz ≤ 65535) (h4 : cols ≤ 65535) (h5 : -9223372036854775808 ≤ cols) (hc : 1 ≤ c) (hf : f + c ≤ 65535) (ht : t + c ≤ 65535)
    (hcn : nil = false → f + c ≤ n ∧ t + c ≤ n) (hn : n ≤ 65536) :
    Calls Try.prog 28 #[.pointer (some ⟨gl, 0, none⟩), .int .i64 cols, .int .i64 f, .int .i64 t, .int .i64 c] w fun e w' => e = .returned (.tuple #[]) ∧ Fr (mvS gl B T) w w' ∧
      Line w' gl vc (.map none) (mx us ((t : Int) + c)) (rsv (rsv sz ((f : Int) + c) cols) ((t : Int) + c) cols) wp ∧ Own w' B T 21 vc nil n (fun i => .int .i32 (mvC C f t c i)) := by
  rcases ho with ⟨rfl, rfl, rfl⟩ | ⟨rfl, gc, hgB, hgT, rfl, hb⟩
  · exact move_n_n gl C B T us sz wp cols f t c w hl hgl h0 h1 h4 h5 hc hf ht
  · obtain ⟨hfn, htn⟩ := hcn rfl
    rcases Nat.lt_trichotomy f t with h | h | h
    · by_cases hx : t ≤ f + c
      · exact move_B1_n gl gc n C B T us sz wp cols f t c w hl hb hgB hgT hgl h0 h1 h4 h5 hc hf ht hfn htn hn h hx
      · exact move_B2_n gl gc n C B T us sz wp cols f t c w hl hb hgB hgT hgl h0 h1 h4 h5 hc hf ht hfn htn hn h (by omega)
    · subst h
      by_cases hnf : f + c < n
      · exact move_C0b_n gl gc n C B T us sz wp cols f c w hl hb hgB hgT hgl h0 h1 h4 h5 hc hf hfn hn hnf
      · obtain rfl : n = f + c := by omega
        exact move_C0a_n gl gc C B T us sz wp cols f c w hl hb hgB hgT hgl h0 h1 h4 h5 hc hf hn
    · by_cases hx : t + c < f
      · exact move_C1_n gl gc n C B T us sz wp cols f t c w hl hb hgB hgT hgl h0 h1 h4 h5 hc hf ht hfn htn hn h hx
      · exact move_C2_n gl gc n C B T us sz wp cols f t c w hl hb hgB hgT hgl h0 h1 h4 h5 hc hf ht hfn htn hn h (by omega)

theorem move_m (gl : Nat) (vc : Value) (nil : Bool) (n : Nat) (C : Nat → Int) (B T : Nat) (gm nk : Nat) (D : DataW Value) (F : Int → Option Value) (us sz : Int) (wp : Bool) (cols : Int) (f t c : Nat) (w : World)
    (hl : Line w gl vc (.map (some gm)) us sz wp) (ho : Own w B T 21 vc nil n (fun i => .int .i32 (C i))) (hgl : T ≤ gl) (hm : MapIs w gm nk D) (hT : Tie D F) (hgm : T ≤ gm) (hgm2 : gm ≠ gl) (hnk : nk ≤ 65536)
    (h0 : 0 ≤ sz) (h1 : sz ≤ 65535) (h4 : cols ≤ 65535) (h5 : -9223372036854775808 ≤ cols) (hc : 1 ≤ c) (hf : f + c ≤ 65535) (ht : t + c ≤ 65535)
    (hcn : nil = false → f + c ≤ n ∧ t + c ≤ n) (hn : n ≤ 65536) :
    Calls Try.prog 28 #[.pointer (some ⟨gl, 0, none⟩), .int .i64 cols, .int .i64 f, .int .i64 t, .int .i64 c] w fun e w' => e = .returned (.tuple #[]) ∧ Fr (mvS gl B T) w w' ∧
      ∃ g' D', w.heap.size ≤ g' ∧ g' < w'.heap.size ∧ Line w' gl vc (.map (some g')) (mx us ((t : Int) + c)) (rsv (rsv sz ((f : Int) + c) cols) ((t : Int) + c) cols) wp ∧
      MapIs w' g' nk D' ∧ Tie D' (mvM F f t c) ∧ Own w' B T 21 vc nil n (fun i => .int .i32 (mvC C f t c i)) := by
  rcases ho with ⟨rfl, rfl, rfl⟩ | ⟨rfl, gc, hgB, hgT, rfl, hb⟩
  · exact move_n_m gl C B T gm nk D F us sz wp cols f t c w hl hgl hm hT hgm hgm2 hnk h0 h1 h4 h5 hc hf ht
  · obtain ⟨hfn, htn⟩ := hcn rfl
    rcases Nat.lt_trichotomy f t with h | h | h
    · by_cases hx : t ≤ f + c
      · exact move_B1_m gl gc n C B T gm nk D F us sz wp cols f t c w hl hb hgB hgT hgl hm hT hgm hgm2 hnk h0 h1 h4 h5 hc hf ht hfn htn hn h hx
      · exact move_B2_m gl gc n C B T gm nk D F us sz wp cols f t c w hl hb hgB hgT hgl hm hT hgm hgm2 hnk h0 h1 h4 h5 hc hf ht hfn htn hn h (by omega)
    · subst h
      by_cases hnf : f + c < n
      · exact move_C0b_m gl gc n C B T gm nk D F us sz wp cols f c w hl hb hgB hgT hgl hm hT hgm hgm2 hnk h0 h1 h4 h5 hc hf hfn hn hnf
      · obtain rfl : n = f + c := by omega
        exact move_C0a_m gl gc C B T gm nk D F us sz wp cols f c w hl hb hgB hgT hgl hm hT hgm hgm2 hnk h0 h1 h4 h5 hc hf hn
    · by_cases hx : t + c < f
      · exact move_C1_m gl gc n C B T gm nk D F us sz wp cols f t c w hl hb hgB hgT hgl hm hT hgm hgm2 hnk h0 h1 h4 h5 hc hf ht hfn htn hn h hx
      · exact move_C2_m gl gc n C B T gm nk D F us sz wp cols f t c w hl hb hgB hgT hgl hm hT hgm hgm2 hnk h0 h1 h4 h5 hc hf ht hfn htn hn h (by omega)

/-! ### ZZMove -/
set_option maxHeartbeats 400000 in
theorem zzmove_n (gl : Nat) (vc : Value) (nil : Bool) (n : Nat) (C : Nat → Int) (B T : Nat) (us sz : Int) (wp : Bool) (cols : Int) (f t c : Nat) (w : World)
    (hl : Line w gl vc (.map none) us sz wp) (ho : Own w B T 21 vc nil n (fun i => .int .i32 (C i))) (hgl : T ≤ gl) (h0 : 0 ≤ sz) (h1 : sz ≤ 65535) (h4 : cols ≤ 65535) (h5 : -9223372036854775808 ≤ cols) (hc : 1 ≤ c) (hf : f + c ≤ 65535) (ht : t + c ≤ 65535)
    (hcn : nil = false → f + c ≤ n ∧ t + c ≤ n) (hn : n ≤ 65536) :
    Calls Try.prog 12 #[.pointer (some ⟨gl, 0, none⟩), .int .i64 cols, .int .i64 f, .int .i64 t, .int .i64 c] w fun e w' => e = .returned (.tuple #[]) ∧ Fr (mvS gl B T) w w' ∧
      Line w' gl vc (.map none) (mx us ((t : Int) + c)) (rsv (rsv sz ((f : Int) + c) cols) ((t : Int) + c) cols) wp ∧ Own w' B T 21 vc nil n (fun i => .int .i32 (mvC C f t c i)) := by
  have H := move_n gl vc nil n C B T us sz wp cols f t c w hl ho hgl h0 h1 h4 h5 hc hf ht hcn hn
  clear hl ho hcn
  go_enter Try.func12, Try.ntmps12
  go_wp2_with fail
  refine H.mono ?_
  rintro e w' ⟨rfl, h1, h2, h3⟩
  go_wp2
  go_end0
  exact ⟨rfl, h1, h2, h3⟩

set_option maxHeartbeats 400000 in
theorem zzmove_m (gl : Nat) (vc : Value) (nil : Bool) (n : Nat) (C : Nat → Int) (B T : Nat) (gm nk : Nat) (D : DataW Value) (F : Int → Option Value) (us sz : Int) (wp : Bool) (cols : Int) (f t c : Nat) (w : World)
    (hl : Line w gl vc (.map (some gm)) us sz wp) (ho : Own w B T 21 vc nil n (fun i => .int .i32 (C i))) (hgl : T ≤ gl) (hm : MapIs w gm nk D) (hT : Tie D F) (hgm : T ≤ gm) (hgm2 : gm ≠ gl) (hnk : nk ≤ 65536)
    (h0 : 0 ≤ sz) (h1 : sz ≤ 65535) (h4 : cols ≤ 65535) (h5 : -9223372036854775808 ≤ cols) (hc : 1 ≤ c) (hf : f + c ≤ 65535) (ht : t + c ≤ 65535)
    (hcn : nil = false → f + c ≤ n ∧ t + c ≤ n) (hn : n ≤ 65536) :
    Calls Try.prog 12 #[.pointer (some ⟨gl, 0, none⟩), .int .i64 cols, .int .i64 f, .int .i64 t, .int .i64 c] w fun e w' => e = .returned (.tuple #[]) ∧ Fr (mvS gl B T) w w' ∧
      ∃ g' D', w.heap.size ≤ g' ∧ g' < w'.heap.size ∧ Line w' gl vc (.map (some g')) (mx us ((t : Int) + c)) (rsv (rsv sz ((f : Int) + c) cols) ((t : Int) + c) cols) wp ∧
      MapIs w' g' nk D' ∧ Tie D' (mvM F f t c) ∧ Own w' B T 21 vc nil n (fun i => .int .i32 (mvC C f t c i)) := by
  have H := move_m gl vc nil n C B T gm nk D F us sz wp cols f t c w hl ho hgl hm hT hgm hgm2 hnk h0 h1 h4 h5 hc hf ht hcn hn
  clear hl ho hcn hm hT
  go_enter Try.func12, Try.ntmps12
  go_wp2_with fail
  refine H.mono ?_
  rintro e w' ⟨rfl, h1, g', D', h2, h3, h6, h7, h8, h9⟩
  have HX : Hid (Fr (mvS gl B T) w w' ∧ ∃ g' D', w.heap.size ≤ g' ∧ g' < w'.heap.size ∧ Line w' gl vc (.map (some g')) (mx us ((t : Int) + c)) (rsv (rsv sz ((f : Int) + c) cols) ((t : Int) + c) cols) wp ∧
      MapIs w' g' nk D' ∧ Tie D' (mvM F f t c) ∧ Own w' B T 21 vc nil n (fun i => .int .i32 (mvC C f t c i))) := ⟨h1, g', D', h2, h3, h6, h7, h8, h9⟩
  clear h1 h2 h3 h6 h7 h8 h9
  go_wp2
  go_end0
  exact ⟨rfl, HX.out⟩

set_option maxHeartbeats 400000 in
/-- a count of 0 or less changes nothing -/
theorem zzmove_0 (gl : Nat) (cols f t c : Int) (w : World) (hc : c ≤ 0) :
    Calls Try.prog 12 #[.pointer (some ⟨gl, 0, none⟩), .int .i64 cols, .int .i64 f, .int .i64 t, .int .i64 c] w fun e w' => e = .returned (.tuple #[]) ∧ w' = w := by
  have H : Calls Try.prog 28 #[.pointer (some ⟨gl, 0, none⟩), .int .i64 cols, .int .i64 f, .int .i64 t, .int .i64 c] w fun e w' => e = .returned (.tuple #[]) ∧ w' = w := by
    go_enter Try.func28, Try.ntmps28
    go_wp2
    refine bodyPost_ret (results_none rfl _ _ _) rfl ?_
    exact ⟨rfl, rfl⟩
  go_enter Try.func12, Try.ntmps12
  go_wp2_with fail
  refine H.mono ?_
  rintro e w' ⟨rfl, rfl⟩
  go_wp2
  go_end0
  exact ⟨rfl, rfl⟩

end Go.Proofs.Qxb6619264a.Cl
