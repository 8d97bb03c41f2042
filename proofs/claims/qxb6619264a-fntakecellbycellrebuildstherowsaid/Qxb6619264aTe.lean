import Derived.Test.Qxb6619264aTc
import Derived.Test.Qxb6619264aCt
import Derived.Test.Qxb6619264aCo
import Derived.Test.Qxb6619264aBy
namespace Go.Proofs.Qxb6619264a.Tk
open Go.RowKit Go.Proofs.Qxb6619264a.W Go.Proofs.Qxb6619264a.Cl
set_option linter.unusedVariables false

theorem ret_bool {a b : Bool} (h : a = b) : Ending.returned (.bool a) = .returned (.bool b) := by rw [h]
/-- the address of a slice -/
def aOf : Value → Option Addr | .slice a _ _ => a | _ => none

theorem owns_in {w : World} {B T : Nat} {n : Nat} {V : Nat → Value} {A : Nat → Option Addr} {L : Nat → Nat} {R : Nat → Nat → Int}
    (h : ∀ i, i < n → Own w B T 21 (V i) (A i).isNone (L i) (fun j => .int .i32 (R i j))) :
    ∀ i, i < n → V i = .slice (aOf (V i)) (L i) (L i) ∧ (A i).isNone = (aOf (V i)).isNone ∧ In w (aOf (V i)) (L i) (fun j => .int .i32 (R i j)) := by
  intro i hi
  obtain ⟨a, h1, h2, h3⟩ := (h i hi).isIn
  rw [h1]
  exact ⟨rfl, h2, h3⟩
theorem in_congr {w : World} {a : Option Addr} {n : Nat} {F G : Nat → Value} (h : In w a n F) (hFG : ∀ i, i < n → F i = G i) : In w a n G := by
  rcases h with h | ⟨b, o, h1, h2, h3⟩
  · exact .inl h
  · exact .inr ⟨b, o, h1, h2, fun i hi => by rw [← hFG i hi]; exact h3 i hi⟩

/-! ### the marks at the end -/
def dstT (F : Int → Option Value) (N : Nat) (x : Int) : Option Int := if (gk F N x).isSome then some x else none
theorem dstT_iff (F : Int → Option Value) (N : Nat) (x y : Int) : dstT F N x = some y ↔ dstT F N y = some x := by
  unfold dstT
  constructor
  · intro h
    split at h
    · rename_i e; cases h; rw [if_pos e]
    · cases h
  · intro h
    split at h
    · rename_i e; cases h; rw [if_pos e]
    · cases h
theorem nz_id {o : Option Value} (h : (nz o).isSome = true) : nz o = o := by
  unfold nz at h ⊢
  split at h
  · rfl
  · cases h
theorem gk_bind (F : Int → Option Value) (N : Nat) (y : Int) : gk F N y = (dstT F N y).bind F := by
  unfold dstT
  by_cases h : (gk F N y).isSome = true
  · rw [if_pos h]
    simp only [Option.bind_some]
    unfold gk at h ⊢
    split at h
    · rename_i e; rw [if_pos e]; exact nz_id h
    · cases h
  · rw [if_neg h]; simpa using h

def cT (K : Nat → Int) (V : Nat → Value) (nk N : Nat) : Nat → Nat := cnt K nk (dstT (lastV K V nk) N)

theorem cnt_zero {K : Nat → Int} {n : Nat} {dst : Int → Option Int} (h : ∀ x, dst x = none) : ∀ k, cnt K n dst k = 0
  | 0 => rfl
  | k + 1 => by simp only [cnt, cnt_zero h k, sel, h]; simp

theorem mks_nil {w : World} {T g : Nat} {vm : Option Nat} {k : Nat} {K : Nat → Int} {V : Nat → Value} {nk N : Nat} (h : Mks w T g vm k (gk (lastV K V nk) N)) : vm.isNone = decide (cT K V nk N nk = 0) := by
  rcases h with ⟨rfl, hG⟩ | ⟨bl, ml, Dl, rfl, _, _, hm, ht, _, x, hx⟩
  · have : cT K V nk N nk = 0 := cnt_zero (fun x => by unfold dstT; rw [hG]; rfl) nk
    simp [this]
  · have hs : cT K V nk N nk ≠ 0 := by
      unfold cT
      rw [← selL_len]
      intro h0
      have hnil := List.eq_nil_of_length_eq_zero h0
      have hx' : (lastV K V nk x).isSome = true := by
        unfold gk at hx
        split at hx
        · rwa [nz_id hx] at hx
        · cases hx
      have hi : ∃ i : Nat, lastIx K x nk = i := by
        have hb := lastIx_lt K x nk
        by_cases e : lastIx K x nk = -1
        · rw [lastV_none K V x nk e] at hx'; cases hx'
        · exact ⟨(lastIx K x nk).toNat, by omega⟩
      obtain ⟨i, hi⟩ := hi
      obtain ⟨h1, h2⟩ := lastIx_is K x nk i hi
      have : x ∈ selL K nk (dstT (lastV K V nk) N) nk := (selL_mem _ _ _ _ _).2 ⟨i, h1, by unfold sel; rw [h2, if_pos hi]; unfold dstT; rw [if_pos hx]⟩
      rw [hnil] at this
      cases this
    simp [hs]

/-- what the line answers about its marks -/
def Ask (w : World) (gl : Nat) (c N : Nat) (F : Int → Option Value) : Prop :=
  ∀ wr, Below w.heap.size w wr →
    (Calls Try.prog 18 #[.pointer (some ⟨gl, 0, none⟩)] wr fun e w' => e = .returned (.bool (decide (c = 0))) ∧ w' = wr) ∧
    (Calls Try.prog 22 #[.pointer (some ⟨gl, 0, none⟩)] wr fun e w' => e = .returned (.int .i64 c) ∧ w' = wr) ∧
    ∀ x a m q, (Lit.int .i64 x).wf = true → 0 ≤ x → x < N → F x = some (.slice (some a) m q) →
      Calls Try.prog 20 #[.pointer (some ⟨gl, 0, none⟩), .int .i64 x] wr fun e w' => e = .returned (.tuple #[.slice (some a) m q, .bool true]) ∧ w' = wr

theorem asks {w : World} {T g gl : Nat} {vc : Value} {vm : Option Nat} {us sz : Int} {wp : Bool} {k : Nat} {K : Nat → Int} {V : Nat → Value} {nk N : Nat} (h : Mks w T g vm k (gk (lastV K V nk) N))
    (hl : Line w gl vc (.map vm) us sz wp) : Ask w gl (cT K V nk N nk) N (lastV K V nk) := by
  intro wr hb
  have hlr : Line wr gl vc (.map vm) us sz wp := hl.fr (Fr.ofBelow (S := fun _ => False) hb) (fun h => h)
  refine ⟨?_, ?_, ?_⟩
  · rw [← mks_nil h]
    exact getMarksNil gl vc vm us sz wp wr hlr
  · rcases h with ⟨rfl, hG⟩ | ⟨bl, ml, Dl, rfl, _, _, hm, ht, _, _⟩
    · have : cT K V nk N nk = 0 := cnt_zero (fun x => by unfold dstT; rw [hG]; rfl) nk
      rw [this]
      exact getMarksLen_nil gl vc us sz wp wr hlr
    · have : Maps.size Dl = cT K V nk N nk := marks_count hm K V nk (dstT (lastV K V nk) N) (dstT (lastV K V nk) N) (dstT_iff _ _) (ht.congr (gk_bind _ _))
      rw [← this]
      exact getMarksLen gl vc bl ml Dl us sz wp wr hlr (hm.below hb (World.ownsMap.lt hm))
  · intro x a m q hw h0 h1 hF
    rcases h with ⟨rfl, hG⟩ | ⟨bl, ml, Dl, rfl, _, _, hm, ht, _, _⟩
    · have := hG x
      unfold gk at this
      rw [if_pos ⟨h0, h1⟩, hF] at this
      cases this
    · exact getMarksAt gl vc bl ml Dl _ us sz wp x (some a) m q wr hlr (hm.below hb (World.ownsMap.lt hm)) ht hw (by unfold gk; rw [if_pos ⟨h0, h1⟩, hF]; rfl)

/-! ### the line that is taken from -/
theorem lastV_ex (K : Nat → Int) (V : Nat → Value) (x : Int) (v : Value) : ∀ n, lastV K V n x = some v → ∃ i, i < n ∧ v = V i
  | 0, h => by simp [lastV] at h
  | n + 1, h => by
    simp only [lastV, upF] at h
    split at h
    · cases h; exact ⟨n, Nat.lt_succ_self _, rfl⟩
    · obtain ⟨i, hi, e⟩ := lastV_ex K V x v n h
      exact ⟨i, by omega, e⟩
theorem sl_lastV {K : Nat → Int} {A : Nat → Option Addr} {L : Nat → Nat} {n : Nat} (h : ∀ i, i < n → A i = none → L i = 0) : Sl (lastV K (fun i => .slice (A i) (L i) (L i)) n) := by
  intro x v hv
  obtain ⟨i, hi, rfl⟩ := lastV_ex _ _ _ _ _ hv
  exact ⟨_, _, rfl, h i hi⟩

theorem from_line (a1 : Option Addr) (n0 : Nat) (a2 : Option Addr) (nk : Nat) (a3 : Option Addr) (C K : Nat → Int) (A : Nat → Option Addr) (L : Nat → Nat) (B T gl : Nat) (nil : Bool) (w : World) (hn : nk ≤ 65536)
    (hK : ∀ i, i < nk → (Lit.int .i64 (K i)).wf = true) (z2 : a2 = none → nk = 0) (hik : In w a2 nk (fun i => .int .i64 (K i))) (hiv : In w a3 nk (fun i => .slice (A i) (L i) (L i)))
    (ho : Own w B T 21 (.slice a1 n0 n0) nil n0 (fun i => .int .i32 (C i))) (hT : T ≤ gl) (hgl : gl < w.heap.size) :
    Calls Try.prog 11 #[.slice a1 n0 n0, .slice a2 nk nk, .slice a3 nk nk, .int .u16 0, .int .u16 0, .bool false] w fun e w' => e = .returned (.pointer (some ⟨w.heap.size, 0, none⟩)) ∧ Below w.heap.size w w' ∧
      w.heap.size < w'.heap.size ∧ From w' gl w.heap.size w'.heap.size n0 a1 C (lastV K (fun i => .slice (A i) (L i) (L i)) nk) := by
  have hrow : ∀ w' : World, Below w.heap.size w w' → (0 < n0 → ∃ g1, a1 = some ⟨g1, 0, none⟩ ∧ g1 < w'.heap.size ∧ g1 ≠ gl ∧ Blk w' g1 21 (rowOf (fun i => .int .i32 (C i)) n0)) := by
    intro w' hb h0
    rcases ho.below hb with ⟨_, h, _⟩ | ⟨_, g, h1, h2, h3, h4⟩
    · omega
    · simp only [Value.slice.injEq, and_true] at h3
      exact ⟨g, h3, h4.lt, by omega, h4⟩
  cases a2 with
  | none =>
    obtain rfl : nk = 0 := z2 rfl
    refine (zzline_nil a1 n0 n0 0 a3 0 0 0 0 false w).mono ?_
    rintro e w' ⟨he, hb, hs, hl⟩
    exact ⟨he, hb, by omega, _, hl, hrow w' hb, .inl ⟨rfl, fun x => rfl⟩⟩
  | some x =>
    refine (zzline a1 n0 n0 (some x) nk nk a3 nk K (fun i => (A i, L i, L i)) 0 0 false w hn hK hik hiv x rfl).mono ?_
    rintro e w' ⟨he, hb, hs, hl, D, hm, ht⟩
    exact ⟨he, hb, by omega, _, hl, hrow w' hb, .inr ⟨_, _, D, rfl, by omega, by omega, hm, ht⟩⟩

theorem st_start {w : World} {gl T : Nat} {cols : Int} {C : Nat → Int} {F : Int → Option Value} (hl : Line w gl (.slice none 0 0) (.map none) 0 0 false) : St w w gl T cols C F 0 :=
  ⟨Fr.refl _ _, _, _, _, _, hl, .inl ⟨rfl, rfl, rfl, rfl, rfl⟩⟩

end Go.Proofs.Qxb6619264a.Tk
