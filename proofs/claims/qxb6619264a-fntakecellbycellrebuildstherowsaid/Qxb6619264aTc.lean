import Derived.Test.Qxb6619264aTkRN
import Derived.Test.Qxb6619264aTkRB
import Derived.Test.Qxb6619264aTkZN
import Derived.Test.Qxb6619264aTkZB
import Derived.Test.Qxb6619264aTkYN
import Derived.Test.Qxb6619264aTkYB
namespace Go.Proofs.Qxb6619264a.Tk
open Go.RowKit Go.Proofs.Qxb6619264a.W Go.Proofs.Qxb6619264a.Cl
set_option linter.unusedVariables false

/-- a mark that is no nil row -/
def nz : Option Value → Option Value
  | some (.slice (some a) n c) => some (.slice (some a) n c)
  | _ => none
/-- the marks of a line that took its first k cells -/
def gk (F : Int → Option Value) (k : Nat) (x : Int) : Option Value := if 0 ≤ x ∧ x < k then nz (F x) else none
def szT (cols : Int) : Nat → Int
  | 0 => 0
  | k + 1 => rsv (szT cols k) ((k : Int) + 1) cols
def lenT (cols : Int) (k : Nat) : Nat := if cols.toNat ≤ k then (if k = 0 then 1 else k) else cols.toNat
def Sl (F : Int → Option Value) : Prop := ∀ x v, F x = some v → ∃ a n, v = .slice a n n ∧ (a = none → n = 0)

theorem szT_bd {cols : Int} (hc : cols ≤ 65535) : ∀ k : Nat, k ≤ 65535 → 0 ≤ szT cols k ∧ szT cols k ≤ 65535
  | 0, _ => by simp [szT]
  | k + 1, h => by
    have := szT_bd hc k (by omega)
    exact rsv_bd this.1 this.2 (by omega) (by omega) hc

theorem nz_none {F : Int → Option Value} (h : Sl F) {x : Int} (hx : nz (F x) = none) : (F x).getD (.slice none 0 0) = .slice none 0 0 := by
  cases hF : F x with
  | none => rfl
  | some v =>
    obtain ⟨a, n, rfl, hn⟩ := h x v hF
    cases a with
    | none => rw [hn rfl]; rfl
    | some a => rw [hF] at hx; simp [nz] at hx
theorem nz_some {o : Option Value} (hx : ¬ nz o = none) : ∃ ax mm cc, o = some (.slice (some ax) mm cc) := by
  unfold nz at hx
  split at hx
  · exact ⟨_, _, _, rfl⟩
  · exact absurd rfl hx
theorem gk_skip {F : Int → Option Value} {k : Nat} (h : nz (F (k : Int)) = none) (x : Int) : gk F k x = gk F (k + 1) x := by
  unfold gk
  by_cases e : x = k
  · subst e; rw [if_neg (by omega), if_pos (by omega), h]
  · by_cases h1 : 0 ≤ x ∧ x < k
    · rw [if_pos h1, if_pos (by omega)]
    · rw [if_neg h1, if_neg (by omega)]
theorem gk_put {F : Int → Option Value} {k : Nat} {ax : Addr} {mm cc : Nat} (h : F (k : Int) = some (.slice (some ax) mm cc)) (x : Int) : upF (gk F k) (k : Int) (.slice (some ax) mm cc) x = gk F (k + 1) x := by
  simp only [gk, upF]
  by_cases e : x = k
  · subst e; rw [if_pos rfl, if_pos (by omega), h]; rfl
  · rw [if_neg e]
    by_cases h1 : 0 ≤ x ∧ x < k
    · rw [if_pos h1, if_pos (by omega)]
    · rw [if_neg h1, if_neg (by omega)]
theorem gk_put0 {F : Int → Option Value} {k : Nat} {ax : Addr} {mm cc : Nat} (h : F (k : Int) = some (.slice (some ax) mm cc)) (hG : ∀ x, gk F k x = none) (x : Int) : upF (fun _ => none) (k : Int) (.slice (some ax) mm cc) x = gk F (k + 1) x := by
  rw [← gk_put h x]
  simp only [upF]
  by_cases e : x = k
  · rw [if_pos e, if_pos e]
  · rw [if_neg e, if_neg e, hG]
theorem gk_zero (F : Int → Option Value) (x : Int) : gk F 0 x = none := by unfold gk; rw [if_neg (by omega)]
theorem gk_isSome {F : Int → Option Value} {k : Nat} {ax : Addr} {mm cc : Nat} (h : F (k : Int) = some (.slice (some ax) mm cc)) : ∃ x, (gk F (k + 1) x).isSome = true := ⟨k, by unfold gk; rw [if_pos (by omega), h]; rfl⟩

def Mks (w : World) (T g : Nat) (vm : Option Nat) (k : Nat) (G : Int → Option Value) : Prop :=
  (vm = none ∧ ∀ x, G x = none) ∨ ∃ bl ml Dl, vm = some bl ∧ T ≤ bl ∧ bl ≠ g ∧ MapIs w bl ml Dl ∧ Tie Dl G ∧ ml ≤ k ∧ ∃ x, (G x).isSome = true

/-- the line that the cells are taken from -/
def From (w : World) (gl gf T N : Nat) (a1 : Option Addr) (C : Nat → Int) (F : Int → Option Value) : Prop :=
  ∃ vmf, Line w gf (.slice a1 N N) vmf 0 0 false ∧ (0 < N → ∃ g1, a1 = some ⟨g1, 0, none⟩ ∧ g1 < T ∧ g1 ≠ gl ∧ Blk w g1 21 (rowOf (fun i => .int .i32 (C i)) N)) ∧
    ((vmf = .map none ∧ ∀ x, F x = none) ∨ ∃ bf nk D, vmf = .map (some bf) ∧ bf < T ∧ bf ≠ gl ∧ MapIs w bf nk D ∧ Tie D F)

theorem From.fr {w wr : World} {gl gf T N : Nat} {a1 : Option Addr} {C : Nat → Int} {F : Int → Option Value} (h : From w gl gf T N a1 C F) (hf : Fr (tkS gl T) w wr) (tf : gf < T) (nlf : gl ≠ gf) : From wr gl gf T N a1 C F := by
  obtain ⟨vmf, h1, h2, h3⟩ := h
  refine ⟨vmf, h1.fr hf (by unfold tkS; omega), fun hN => ?_, ?_⟩
  · obtain ⟨g1, e, t, n, hb⟩ := h2 hN
    exact ⟨g1, e, t, n, hf.blk (by unfold tkS; omega) hb⟩
  · rcases h3 with h3 | ⟨bf, nk, D, e, t, n, hm, ht⟩
    · exact .inl h3
    · exact .inr ⟨bf, nk, D, e, t, n, hm.fr hf (by unfold tkS; omega), ht⟩

/-- the line that took its first k cells -/
def St (w wr : World) (gl T : Nat) (cols : Int) (C : Nat → Int) (F : Int → Option Value) (k : Nat) : Prop :=
  Fr (tkS gl T) w wr ∧ ∃ a n c vm, Line wr gl (.slice a n c) (.map vm) (k : Int) (szT cols k) false ∧
    ((k = 0 ∧ a = none ∧ n = 0 ∧ c = 0 ∧ vm = none) ∨ (0 < k ∧ n = lenT cols k ∧ ∃ g, a = some ⟨g, 0, none⟩ ∧ Row wr T g c n (fillR C k) ∧ Mks wr T g vm k (gk F k)))

theorem mx_succ (k : Nat) : mx (k : Int) ((k : Int) + 1) = ((k + 1 : Nat) : Int) := by unfold mx; rw [if_pos (by omega)]; omega

theorem St.mk' {w w' : World} {gl T : Nat} {cols : Int} {C : Nat → Int} {F : Int → Option Value} {k g' m cap' : Nat} {vm : Option Nat} (hf : Fr (tkS gl T) w w')
    (hl : Line w' gl (.slice (some ⟨g', 0, none⟩) m cap') (.map vm) (mx (k : Int) ((k : Int) + 1)) (rsv (szT cols k) ((k : Int) + 1) cols) false) (hm : m = lenT cols (k + 1)) (hr : Row w' T g' cap' m (fillR C (k + 1)))
    (hk : Mks w' T g' vm (k + 1) (gk F (k + 1))) : St w w' gl T cols C F (k + 1) := by
  rw [mx_succ] at hl
  exact ⟨hf, _, _, _, _, hl, .inr ⟨by omega, hm, g', rfl, hr, hk⟩⟩

theorem Mk.to {w w' : World} {T g g' k : Nat} {bl ml : Nat} {Dl : DataW Value} {G G' : Int → Option Value} (h : Mk w' T g' (.map (some bl)) ml Dl) (ht : Tie Dl G) (hG : ∀ x, G x = G' x) (hk : ml ≤ k) (hx : ∃ x, (G x).isSome = true) : Mks w' T g' (some bl) (k + 1) G' := by
  rcases h with h | ⟨b, h1, h2, h3, h4⟩
  · cases h
  · cases h1
    obtain ⟨x, hx⟩ := hx
    exact .inr ⟨bl, ml, Dl, rfl, h2, h3, h4, ht.congr hG, by omega, x, by rw [← hG]; exact hx⟩

set_option maxHeartbeats 1000000 in
theorem take_step (gl gf T N : Nat) (a1 : Option Addr) (C : Nat → Int) (F : Int → Option Value) (cols : Int) (k : Nat) (w wr : World) (hst : St w wr gl T cols C F k) (hfrom : From w gl gf T N a1 C F) (hsl : Sl F)
    (hkN : k < N) (hN : N ≤ 65535) (tl : gl < T) (tf : gf < T) (nlf : gl ≠ gf) (hT : T ≤ w.heap.size) (h4 : cols ≤ 65535) (h5 : -9223372036854775808 ≤ cols) :
    Calls Try.prog 30 #[.pointer (some ⟨gl, 0, none⟩), .pointer (some ⟨gf, 0, none⟩), .int .i64 k, .int .i64 k, .int .i64 cols] wr fun e w' => e = .returned (.tuple #[]) ∧ St w w' gl T cols C F (k + 1) := by
  obtain ⟨hfr, a, n, c, vm, hl, hst⟩ := hst
  obtain ⟨vmf, hf, h1, hm⟩ := hfrom.fr hfr tf nlf
  obtain ⟨g1, rfl, t1, nl1', hb1⟩ := h1 (by omega)
  have nl1 : gl ≠ g1 := fun h => nl1' h.symm
  obtain ⟨s0, s1⟩ := szT_bd h4 k (by omega)
  have hTr : T ≤ wr.heap.size := Nat.le_trans hT hfr.size
  rcases hst with ⟨rfl, rfl, rfl, rfl, rfl⟩ | ⟨hk, rfl, g, rfl, hr, hmk⟩
  · by_cases hc : cols < 1
    · rcases hm with ⟨rfl, hF⟩ | ⟨bf, nk, D, rfl, tbf, nbf, hmi, hti⟩
      · refine (take_ZN gl gf g1 N T C ((0 : Nat) : Int) (szT cols 0) false cols 0 wr hl rfl hc hf hb1 hkN hN tl tf t1 nlf nl1 hTr s0 s1 h4 h5).mono ?_
        rintro e w' ⟨he, fr', g', cap', m, hm', hr', hg', hl'⟩
        exact ⟨he, St.mk' (k := 0) (hfr.trans fr') hl' (by unfold lenT; (repeat' split) <;> omega) hr' (.inl ⟨rfl, fun x => by rw [← gk_skip (by rw [hF]; rfl) x]; exact gk_zero F x⟩)⟩
      · by_cases hz : nz (F ((0 : Nat) : Int)) = none
        · refine (take_ZA gl gf g1 N T C bf nk D F ((0 : Nat) : Int) (szT cols 0) false cols 0 wr hl rfl hc hf hb1 hkN hN tl tf t1 nlf nl1 hTr hmi hti tbf nbf (nz_none hsl hz) s0 s1 h4 h5).mono ?_
          rintro e w' ⟨he, fr', g', cap', m, hm', hr', hg', hl'⟩
          exact ⟨he, St.mk' (k := 0) (hfr.trans fr') hl' (by unfold lenT; (repeat' split) <;> omega) hr' (.inl ⟨rfl, fun x => by rw [← gk_skip hz x]; exact gk_zero F x⟩)⟩
        · obtain ⟨ax, mm, cc, hF⟩ := nz_some hz
          refine (take_ZB gl gf g1 N T C bf nk D F ax mm cc ((0 : Nat) : Int) (szT cols 0) false cols 0 wr hl rfl hc hf hb1 hkN hN tl tf t1 nlf nl1 hTr hmi hti tbf nbf hF s0 s1 h4 h5).mono ?_
          rintro e w' ⟨he, fr', g', cap', m, hm', hr', hg', b', D', tb', nb', hl', hm2, ht2⟩
          exact ⟨he, St.mk' (k := 0) (hfr.trans fr') hl' (by unfold lenT; (repeat' split) <;> omega) hr' (.inr ⟨b', 1, D', rfl, tb', nb', hm2, ht2.congr (gk_put0 hF (gk_zero F)), by omega, gk_isSome hF⟩)⟩
    · obtain ⟨q, rfl⟩ : ∃ q : Nat, cols = q := ⟨cols.toNat, by omega⟩
      rcases hm with ⟨rfl, hF⟩ | ⟨bf, nk, D, rfl, tbf, nbf, hmi, hti⟩
      · refine (take_YN gl gf g1 N T C ((0 : Nat) : Int) (szT (q : Int) 0) false (q : Int) 0 q wr hl rfl rfl (by omega) (by omega) hf hb1 hkN hN tl tf t1 nlf nl1 hTr s0 s1 h4 h5).mono ?_
        rintro e w' ⟨he, fr', g', cap', m, hm', hr', hg', hl'⟩
        exact ⟨he, St.mk' (k := 0) (hfr.trans fr') hl' (by unfold lenT; (repeat' split) <;> omega) hr' (.inl ⟨rfl, fun x => by rw [← gk_skip (by rw [hF]; rfl) x]; exact gk_zero F x⟩)⟩
      · by_cases hz : nz (F ((0 : Nat) : Int)) = none
        · refine (take_YA gl gf g1 N T C bf nk D F ((0 : Nat) : Int) (szT (q : Int) 0) false (q : Int) 0 q wr hl rfl rfl (by omega) (by omega) hf hb1 hkN hN tl tf t1 nlf nl1 hTr hmi hti tbf nbf (nz_none hsl hz) s0 s1 h4 h5).mono ?_
          rintro e w' ⟨he, fr', g', cap', m, hm', hr', hg', hl'⟩
          exact ⟨he, St.mk' (k := 0) (hfr.trans fr') hl' (by unfold lenT; (repeat' split) <;> omega) hr' (.inl ⟨rfl, fun x => by rw [← gk_skip hz x]; exact gk_zero F x⟩)⟩
        · obtain ⟨ax, mm, cc, hF⟩ := nz_some hz
          refine (take_YB gl gf g1 N T C bf nk D F ax mm cc ((0 : Nat) : Int) (szT (q : Int) 0) false (q : Int) 0 q wr hl rfl rfl (by omega) (by omega) hf hb1 hkN hN tl tf t1 nlf nl1 hTr hmi hti tbf nbf hF s0 s1 h4 h5).mono ?_
          rintro e w' ⟨he, fr', g', cap', m, hm', hr', hg', b', D', tb', nb', hl', hm2, ht2⟩
          exact ⟨he, St.mk' (k := 0) (hfr.trans fr') hl' (by unfold lenT; (repeat' split) <;> omega) hr' (.inr ⟨b', 1, D', rfl, tb', nb', hm2, ht2.congr (gk_put0 hF (gk_zero F)), by omega, gk_isSome hF⟩)⟩
  · have hn1 : k ≤ lenT cols k := by unfold lenT; split; split; all_goals omega
    have hn2 : lenT cols k ≤ 65536 := by unfold lenT; split; split; all_goals omega
    rcases hmk with ⟨rfl, hG⟩ | ⟨bl, ml, Dl, rfl, tbl, nbl, hml, htl, hmlk, hx⟩
    · rcases hm with ⟨rfl, hF⟩ | ⟨bf, nk, D, rfl, tbf, nbf, hmi, hti⟩
      · refine (take_RN gl gf g1 N T C (.map none) 0 (.map []) ((k : Nat) : Int) (szT cols k) false cols k g c (lenT cols k) wr hl hr hn1 hn2 hf hb1 hkN hN tl tf t1 nlf nl1 hTr (.inl rfl) s0 s1 h4 h5).mono ?_
        rintro e w' ⟨he, fr', g', cap', m, hm', hr', hg', hl', hk'⟩
        exact ⟨he, St.mk' (k := k) (hfr.trans fr') hl' (by unfold lenT at hm'; unfold lenT; (repeat' split at hm') <;> (repeat' split) <;> omega) hr' (.inl ⟨rfl, fun x => by rw [← gk_skip (by rw [hF]; rfl) x]; exact hG x⟩)⟩
      · by_cases hz : nz (F (k : Int)) = none
        · refine (take_RA gl gf g1 N T C (.map none) 0 (.map []) bf nk D F ((k : Nat) : Int) (szT cols k) false cols k g c (lenT cols k) wr hl hr hn1 hn2 hf hb1 hkN hN tl tf t1 nlf nl1 hTr hmi hti tbf nbf (nz_none hsl hz) (.inl rfl) s0 s1 h4 h5).mono ?_
          rintro e w' ⟨he, fr', g', cap', m, hm', hr', hg', hl', hk'⟩
          exact ⟨he, St.mk' (k := k) (hfr.trans fr') hl' (by unfold lenT at hm'; unfold lenT; (repeat' split at hm') <;> (repeat' split) <;> omega) hr' (.inl ⟨rfl, fun x => by rw [← gk_skip hz x]; exact hG x⟩)⟩
        · obtain ⟨ax, mm, cc, hF⟩ := nz_some hz
          refine (take_RB gl gf g1 N T C bf nk D F ax mm cc ((k : Nat) : Int) (szT cols k) false cols k g c (lenT cols k) wr hl hr hn1 hn2 hf hb1 hkN hN tl tf t1 nlf nl1 hTr hmi hti tbf nbf hF s0 s1 h4 h5).mono ?_
          rintro e w' ⟨he, fr', g', cap', m, hm', hr', hg', b', D', tb', nb', hl', hm2, ht2⟩
          exact ⟨he, St.mk' (k := k) (hfr.trans fr') hl' (by unfold lenT at hm'; unfold lenT; (repeat' split at hm') <;> (repeat' split) <;> omega) hr' (.inr ⟨b', 1, D', rfl, tb', nb', hm2, ht2.congr (gk_put0 hF (hG)), by omega, gk_isSome hF⟩)⟩
    · rcases hm with ⟨rfl, hF⟩ | ⟨bf, nk, D, rfl, tbf, nbf, hmi, hti⟩
      · refine (take_RN gl gf g1 N T C (.map (some bl)) ml Dl ((k : Nat) : Int) (szT cols k) false cols k g c (lenT cols k) wr hl hr hn1 hn2 hf hb1 hkN hN tl tf t1 nlf nl1 hTr (.inr ⟨bl, rfl, tbl, nbl, hml⟩) s0 s1 h4 h5).mono ?_
        rintro e w' ⟨he, fr', g', cap', m, hm', hr', hg', hl', hk'⟩
        exact ⟨he, St.mk' (k := k) (hfr.trans fr') hl' (by unfold lenT at hm'; unfold lenT; (repeat' split at hm') <;> (repeat' split) <;> omega) hr' (Mk.to (w := wr) (g := g) hk' htl (fun x => gk_skip (by rw [hF]; rfl) x) hmlk hx)⟩
      · by_cases hz : nz (F (k : Int)) = none
        · refine (take_RA gl gf g1 N T C (.map (some bl)) ml Dl bf nk D F ((k : Nat) : Int) (szT cols k) false cols k g c (lenT cols k) wr hl hr hn1 hn2 hf hb1 hkN hN tl tf t1 nlf nl1 hTr hmi hti tbf nbf (nz_none hsl hz) (.inr ⟨bl, rfl, tbl, nbl, hml⟩) s0 s1 h4 h5).mono ?_
          rintro e w' ⟨he, fr', g', cap', m, hm', hr', hg', hl', hk'⟩
          exact ⟨he, St.mk' (k := k) (hfr.trans fr') hl' (by unfold lenT at hm'; unfold lenT; (repeat' split at hm') <;> (repeat' split) <;> omega) hr' (Mk.to (w := wr) (g := g) hk' htl (fun x => gk_skip hz x) hmlk hx)⟩
        · obtain ⟨ax, mm, cc, hF⟩ := nz_some hz
          refine (take_RC gl gf g1 N T C bf nk D F ax mm cc bl ml Dl _ ((k : Nat) : Int) (szT cols k) false cols k g c (lenT cols k) wr hl hr hn1 hn2 hf hb1 hkN hN tl tf t1 nlf nl1 hTr hmi hti tbf nbf hF hml htl tbl (by omega) nbl s0 s1 h4 h5).mono ?_
          rintro e w' ⟨he, fr', g', cap', m, hm', hr', hg', D', nb', hl', hm2, ht2⟩
          exact ⟨he, St.mk' (k := k) (hfr.trans fr') hl' (by unfold lenT at hm'; unfold lenT; (repeat' split at hm') <;> (repeat' split) <;> omega) hr' (.inr ⟨bl, ml + 1, D', rfl, tbl, nb', hm2, ht2.congr (fun x => gk_put hF x), by omega, gk_isSome hF⟩)⟩

/-- ZZTake -/
theorem zztake (gl gf T N : Nat) (a1 : Option Addr) (C : Nat → Int) (F : Int → Option Value) (cols : Int) (k : Nat) (w wr : World) (hst : St w wr gl T cols C F k) (hfrom : From w gl gf T N a1 C F) (hsl : Sl F)
    (hkN : k < N) (hN : N ≤ 65535) (tl : gl < T) (tf : gf < T) (nlf : gl ≠ gf) (hT : T ≤ w.heap.size) (h4 : cols ≤ 65535) (h5 : -9223372036854775808 ≤ cols) :
    Calls Try.prog 27 #[.pointer (some ⟨gl, 0, none⟩), .pointer (some ⟨gf, 0, none⟩), .int .i64 k, .int .i64 k, .int .i64 cols] wr fun e w' => e = .returned (.tuple #[]) ∧ St w w' gl T cols C F (k + 1) := by
  have H := take_step gl gf T N a1 C F cols k w wr hst hfrom hsl hkN hN tl tf nlf hT h4 h5
  clear hst hfrom hsl
  go_enter Try.func27, Try.ntmps27
  go_wp2_with fail
  refine H.mono ?_
  rintro e w9 ⟨rfl, h9⟩
  have H9 : Hid (St w w9 gl T cols C F (k + 1)) := h9
  clear h9
  go_wp2
  go_end0
  exact ⟨rfl, H9.out⟩

end Go.Proofs.Qxb6619264a.Tk
