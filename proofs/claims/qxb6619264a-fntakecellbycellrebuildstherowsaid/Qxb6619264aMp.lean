import Derived.Test.Qxb6619264aLn
import Derived.Maps.RangeWalk
import Derived.Maps.OwnSet
import Derived.BigRegion
namespace Go.Proofs.Qxb6619264a.Cl
open Go.RowKit Go.Proofs.Qxb6619264a.W

/-- the elements as tokens of themselves -/
def tokR (v : Value) : Option (DataW Value × List MemPlace) := some (.held v, [])
def MapIs (w : World) (b n : Nat) (D : DataW Value) : Prop := w.ownsMap Try.prog 3 tokR b n D
theorem law3 : Maps.Keyed Try.prog 3 := Maps.int_keyed Try.underlying3
theorem key3 {x : Int} (h : (Lit.int .i64 x).wf = true) : keyOf Try.prog 3 (.int .i64 x) = some (.int .i64 x) := Maps.keyOf_int_mk Try.underlying3 h

/-- what the map holds, key by key -/
structure Tie (D : DataW Value) (F : Int → Option Value) : Prop where
  ints : ∀ l, Maps.has D l = true → ∃ x, l = .int .i64 x
  has : ∀ x, Maps.has D (.int .i64 x) = (F x).isSome
  atK : ∀ x zd, D.atKey (.int .i64 x) zd = (match F x with | some v => .held v | none => zd)

def upF (F : Int → Option Value) (k : Int) (v : Value) (x : Int) : Option Value := if x = k then some v else F x

theorem Tie.empty : Tie (.map []) (fun _ => none) := ⟨fun l h => by simp [Maps.has] at h, fun x => rfl, fun x zd => rfl⟩

theorem isKey (x : Int) : WideAt.IsKeyLit (.int .i64 x) := by simp [WideAt.IsKeyLit]

theorem Tie.put {D : DataW Value} {F : Int → Option Value} (h : Tie D F) (hm : Maps.IsMap D) (k : Int) (v : Value) : Tie (D.put (.int .i64 k) (.held v)) (upF F k v) := by
  refine ⟨fun l hl => ?_, fun x => ?_, fun x zd => ?_⟩
  · by_cases e : l = .int .i64 k
    · exact ⟨k, e⟩
    · rw [Maps.has_put_other e] at hl
      exact h.ints l hl
  · by_cases e : x = k
    · subst e; rw [Maps.has_put_same hm (isKey x)]; simp [upF]
    · rw [Maps.has_put_other (by simpa using e), h.has]; simp [upF, e]
  · by_cases e : x = k
    · subst e; rw [Maps.atKey_put_same hm (isKey x)]; simp [upF]
    · rw [Maps.atKey_put_other (by simpa using e), h.atK]; simp [upF, e]

theorem nodup_len {α : Type} [DecidableEq α] : ∀ (l m : List α), l.Nodup → (∀ x, x ∈ l → x ∈ m) → l.length ≤ m.length
  | [], _, _, _ => Nat.zero_le _
  | a :: l, m, hn, hs => by
    have ha : a ∈ m := hs a (by simp)
    have h1 := nodup_len l (m.erase a) (List.nodup_cons.1 hn).2 (fun x hx => by
      refine (List.mem_erase_of_ne ?_).2 (hs x (by simp [hx]))
      intro e; subst e; exact (List.nodup_cons.1 hn).1 hx)
    have h2 := List.length_erase_of_mem ha
    have h3 : 0 < m.length := List.length_pos_of_mem ha
    simp only [List.length_cons]; omega

theorem Tie.size {w : World} {b n : Nat} {D : DataW Value} {F : Int → Option Value} (hw : MapIs w b n D) (h : Tie D F) (L : List Int) (hL : L.Nodup) (hm : ∀ x, x ∈ L ↔ (F x).isSome = true) : Maps.size D = L.length := by
  classical
  obtain ⟨es, rfl, hp, hk⟩ := World.ownsMap.entries hw law3
  have hhas : ∀ p, p ∈ es → Maps.has (DataW.map es) p.1 = true := fun p hp' => by
    simp only [Maps.has, List.any_eq_true]
    exact ⟨p, hp', WideAt.sameKey_self (hk p hp')⟩
  show es.length = L.length
  have e1 : (es.map (·.1)).length = es.length := by simp
  have e2 : (L.map (Lit.int .i64)).length = L.length := by simp
  have n1 : (es.map (·.1)).Nodup := by
    rw [List.Nodup, List.pairwise_map]; exact hp
  have n2 : (L.map (Lit.int .i64)).Nodup := by
    rw [List.Nodup, List.pairwise_map]; exact hL.imp (fun hne e => hne (by simpa using e))
  have s1 : ∀ l, l ∈ es.map (·.1) → l ∈ L.map (Lit.int .i64) := fun l hl => by
    obtain ⟨p, hp', rfl⟩ := List.mem_map.1 hl
    have hh := hhas p hp'
    obtain ⟨x, hx⟩ := h.ints _ hh
    rw [hx] at hh ⊢
    rw [h.has] at hh
    exact List.mem_map.2 ⟨x, (hm x).2 hh, rfl⟩
  have s2 : ∀ l, l ∈ L.map (Lit.int .i64) → l ∈ es.map (·.1) := fun l hl => by
    obtain ⟨x, hx, rfl⟩ := List.mem_map.1 hl
    have hh := h.has x
    rw [(hm x).1 hx] at hh
    simp only [Maps.has, List.any_eq_true] at hh
    obtain ⟨p, hp', hs⟩ := hh
    exact List.mem_map.2 ⟨p, hp', WideAt.sameKey_eq hs⟩
  have a1 := nodup_len _ _ n1 s1
  have a2 := nodup_len _ _ n2 s2
  omega

theorem MapIs.fr {S : Nat → Prop} {w w' : World} {b n : Nat} {D : DataW Value} (h : MapIs w b n D) (hf : Fr S w w') (hs : ¬ S b) : MapIs w' b n D := by
  have hlt := World.ownsMap.lt h
  obtain ⟨es, clock, hb, r⟩ := h
  exact ⟨es, clock, (hf.block b hlt hs).trans hb, r⟩
theorem MapIs.below {w w' : World} {b n B : Nat} {D : DataW Value} (h : MapIs w b n D) (hf : Below B w w') (hb : b < B) : MapIs w' b n D := by
  obtain ⟨es, clock, hb', r⟩ := h
  exact ⟨es, clock, (hf.block b hb).trans hb', r⟩

/-- keys[i] leads to vals[i]; a later one stands over an earlier one -/
def lastV (K : Nat → Int) (V : Nat → Value) : Nat → Int → Option Value
  | 0 => fun _ => none
  | n + 1 => upF (lastV K V n) (K n) (V n)

/-- 'make(map[K]V, n)' -/
theorem run_mkMap {P : Program} (t : TypeId) (w : World) (k e : TypeId) (ht : P.underlying t = some (.map k e)) (n : Int) : (Instr.makeMap t (some (.int .i64 n))).run P w = .ok (.map (some w.heap.size)) (w.alloc (.map #[] 0)) := by
  simp [Instr.makeMap, run_underlying ht, asInt, asIntOf]

set_option maxHeartbeats 1000000 in
theorem zzline (a0 : Option Addr) (n0 c0 : Nat) (ak : Option Addr) (nk ck : Nat) (av : Option Addr) (cv : Nat) (K : Nat → Int) (V : Nat → Option Addr × Nat × Nat) (us sz : Int) (wp : Bool) (w : World)
    (hn : nk ≤ 65536) (hK : ∀ i, i < nk → (Lit.int .i64 (K i)).wf = true) (hik : In w ak nk (fun i => .int .i64 (K i))) (hiv : In w av nk (fun i => .slice (V i).1 (V i).2.1 (V i).2.2)) (x : Addr) (hx : ak = some x) :
    Calls Try.prog 11 #[.slice a0 n0 c0, .slice ak nk ck, .slice av nk cv, .int .u16 us, .int .u16 sz, .bool wp] w fun e w' => e = .returned (.pointer (some ⟨w.heap.size, 0, none⟩)) ∧ Below w.heap.size w w' ∧
      w.heap.size + 2 ≤ w'.heap.size ∧ Line w' w.heap.size (.slice a0 n0 c0) (.map (some (w.heap.size + 1))) us sz wp ∧ ∃ D, MapIs w' (w.heap.size + 1) nk D ∧ Tie D (lastV K (fun i => .slice (V i).1 (V i).2.1 (V i).2.2) nk) := by
  have q := fun w => run_neq_slice_nil (P := Try.prog) w 23 3 (some x) nk ck Try.underlying23
  have q2 := fun w => run_mkMap (P := Try.prog) 52 w 3 22 Try.underlying52 (nk : Int)
  subst hx
  have HK : Hid (∀ i, i < nk → (Lit.int .i64 (K i)).wf = true) := hK
  have HI : Hid (In w (some x) nk (fun i => .int .i64 (K i))) := hik
  have HV : Hid (In w av nk (fun i => .slice (V i).1 (V i).2.1 (V i).2.2)) := hiv
  clear hik hiv hK
  go_enter Try.func11, Try.ntmps11
  go_wp2
  have HL0 : Hid (Line ((w.alloc (Obj.cells #[Value.slice a0 n0 c0, Value.map (some (w.heap.size + 1)), Value.int IntKind.u16 us, Value.int IntKind.u16 sz, Value.bool wp] 54)).alloc (Obj.map #[] 0)) w.heap.size (.slice a0 n0 c0) (.map (some (w.heap.size + 1))) us sz wp) :=
    (Blk.new w 54 [Value.slice a0 n0 c0, Value.map (some (w.heap.size + 1)), Value.int IntKind.u16 us, Value.int IntKind.u16 sz, Value.bool wp]).alloc _
  have HM0 : Hid (MapIs ((w.alloc (Obj.cells #[Value.slice a0 n0 c0, Value.map (some (w.heap.size + 1)), Value.int IntKind.u16 us, Value.int IntKind.u16 sz, Value.bool wp] 54)).alloc (Obj.map #[] 0)) (w.heap.size + 1) 0 (.map [])) := by
    have h := World.ownsMap_made (w.alloc (Obj.cells #[Value.slice a0 n0 c0, Value.map (some (w.heap.size + 1)), Value.int IntKind.u16 us, Value.int IntKind.u16 sz, Value.bool wp] 54)) Try.prog 3 tokR
    rw [show (w.alloc (Obj.cells #[Value.slice a0 n0 c0, Value.map (some (w.heap.size + 1)), Value.int IntKind.u16 us, Value.int IntKind.u16 sz, Value.bool wp] 54)).heap.size = w.heap.size + 1 from by simp] at h
    exact h
  have HB0 : Hid (Below w.heap.size w ((w.alloc (Obj.cells #[Value.slice a0 n0 c0, Value.map (some (w.heap.size + 1)), Value.int IntKind.u16 us, Value.int IntKind.u16 sz, Value.bool wp] 54)).alloc (Obj.map #[] 0))) :=
    ((Below.refl _ _).alloc (Nat.le_refl _) _).alloc (by simp) _
  go_loopw [14] (fun i wr => ∃ (k : Nat) (D : DataW Value), k ≤ nk ∧ i = .int .i64 k ∧ Below w.heap.size w wr ∧ w.heap.size + 2 ≤ wr.heap.size ∧ Line wr w.heap.size (.slice a0 n0 c0) (.map (some (w.heap.size + 1))) us sz wp ∧
      MapIs wr (w.heap.size + 1) k D ∧ Tie D (lastV K (fun i => .slice (V i).1 (V i).2.1 (V i).2.2) k)) (fun i _ => nk - (intOf i).toNat)
  case atStart => exact ⟨0, _, Nat.zero_le _, rfl, HB0.out, by simp, HL0.out, HM0.out, Tie.empty⟩
  case round =>
    obtain ⟨k, D, hk, rfl, hbel, hsz, hl, hm, ht⟩ := hrel
    have HT : Hid (Tie D (lastV K (fun i => .slice (V i).1 (V i).2.1 (V i).2.2) k)) := ht
    have HL : Hid (Line wr w.heap.size (.slice a0 n0 c0) (.map (some (w.heap.size + 1))) us sz wp) := hl
    have HM : Hid (MapIs wr (w.heap.size + 1) k D) := hm
    clear hl hm ht HL0 HM0 HB0
    by_cases hlt : k < nk
    · rcases HI.out with h | ⟨b, o, hx, hb, hc⟩
      · omega
      rcases HV.out with h | ⟨b', o', hx', hb', hc'⟩
      · omega
      simp only [Option.some.injEq] at hx
      subst hx hx'
      have g1 : wr.cell? ⟨b, o + k, none⟩ = some (.int .i64 (K k)) := (hbel.cell (p := ⟨b, o + k, none⟩) hb).trans (hc k hlt)
      have g2 : wr.cell? ⟨b', o' + k, none⟩ = some (.slice (V k).1 (V k).2.1 (V k).2.2) := (hbel.cell (p := ⟨b', o' + k, none⟩) hb').trans (hc' k hlt)
      have g3 := HL.out.c1
      have g4 : (0 : Int) ≤ (k : Int) := by omega
      have g5 : (k : Int) < (nk : Int) := by omega
      obtain ⟨w2, hrun, hown2, hg2⟩ := (World.ownsMap.drew HM.out).update law3 Try.underlying52 (show k < maxLen by unfold maxLen; omega) (key3 (HK.out k hlt)) (show tokR (.slice (V k).1 (V k).2.1 (V k).2.2) = some (.held (.slice (V k).1 (V k).2.1 (V k).2.2), []) from rfl)
      clear hc hc'
      have H2 : Hid (w2.ownsMap Try.prog 3 tokR (w.heap.size + 1) (k + 1) (D.put (.int .i64 (K k)) (.held (.slice (V k).1 (V k).2.1 (V k).2.2)))) := hown2
      have G2 : Hid (wr.drew.grownBy w2 (some (w.heap.size + 1))) := hg2
      clear hown2 hg2
      go_wp2
      go_region
      have hfr : Fr (fun j => j = w.heap.size + 1) wr w2 := (Fr.refl _ wr).drew.grown G2.out (fun j hj => by simpa using hj.symm)
      go_wp2
      go_roundw
      case rel => exact ⟨k + 1, _, hlt, by go_num, hbel.trans (hfr.below (by omega) (fun j h1 h2 => by omega)), Nat.le_trans hsz hfr.size, HL.out.fr hfr (by omega), H2.out, HT.out.put (World.ownsMap.isMap HM.out) _ _⟩
      case measure => simp [intOf]; omega
    · obtain rfl : k = nk := by omega
      go_wp2
      go_ret
      exact ⟨rfl, hbel, hsz, HL.out, D, HM.out, HT.out⟩

/-- .. where there are no keys: no map -/
theorem zzline_nil (a0 : Option Addr) (n0 c0 : Nat) (ck : Nat) (av : Option Addr) (nv cv : Nat) (us sz : Int) (wp : Bool) (w : World) :
    Calls Try.prog 11 #[.slice a0 n0 c0, .slice none 0 ck, .slice av nv cv, .int .u16 us, .int .u16 sz, .bool wp] w fun e w' => e = .returned (.pointer (some ⟨w.heap.size, 0, none⟩)) ∧ Below w.heap.size w w' ∧
      w'.heap.size = w.heap.size + 1 ∧ Line w' w.heap.size (.slice a0 n0 c0) (.map none) us sz wp := by
  have q := fun w => run_neq_slice_nil (P := Try.prog) w 23 3 none 0 ck Try.underlying23
  have HL0 : Hid (Line (w.alloc (Obj.cells #[Value.slice a0 n0 c0, Value.map none, Value.int IntKind.u16 us, Value.int IntKind.u16 sz, Value.bool wp] 54)) w.heap.size (.slice a0 n0 c0) (.map none) us sz wp) :=
    Blk.new w 54 [Value.slice a0 n0 c0, Value.map none, Value.int IntKind.u16 us, Value.int IntKind.u16 sz, Value.bool wp]
  go_enter Try.func11, Try.ntmps11
  go_wp2
  go_ret
  exact ⟨rfl, (Below.refl _ _).alloc (Nat.le_refl _) _, by simp, HL0.out⟩

/-! ### getters of the map -/
theorem zero22 (w : World) : (zeroValue 22).run Try.prog w = .ok (.slice none 0 0) w := by kernel_rfl

set_option maxHeartbeats 400000 in
theorem getMarksLen (gl : Nat) (vc : Value) (b n : Nat) (D : DataW Value) (us sz : Int) (wp : Bool) (w : World) (hl : Line w gl vc (.map (some b)) us sz wp) (hm : MapIs w b n D) :
    Calls Try.prog 22 #[.pointer (some ⟨gl, 0, none⟩)] w fun e w' => e = .returned (.int .i64 (Maps.size D)) ∧ w' = w := by
  have k := hl.c1
  have HM : Hid (w.ownsMap Try.prog 3 tokR b n D) := hm
  clear hl hm
  go_enter Try.func22, Try.ntmps22
  go_wp2_with (at_len; refine wpList_len_own _ rfl _ 52 rfl 3 22 Try.underlying52 tokR b n D rfl HM.out ?_)
  go_ret
  exact ⟨rfl, rfl⟩
set_option maxHeartbeats 400000 in
theorem getMarksLen_nil (gl : Nat) (vc : Value) (us sz : Int) (wp : Bool) (w : World) (hl : Line w gl vc (.map none) us sz wp) :
    Calls Try.prog 22 #[.pointer (some ⟨gl, 0, none⟩)] w fun e w' => e = .returned (.int .i64 0) ∧ w' = w := by
  have k := hl.c1
  clear hl
  go_enter Try.func22, Try.ntmps22
  go_wp2
  go_ret
  exact ⟨rfl, rfl⟩
set_option maxHeartbeats 400000 in
/-- a key that is there -/
theorem getMarksAt (gl : Nat) (vc : Value) (b n : Nat) (D : DataW Value) (F : Int → Option Value) (us sz : Int) (wp : Bool) (x : Int) (a : Option Addr) (m c : Nat) (w : World) (hl : Line w gl vc (.map (some b)) us sz wp) (hm : MapIs w b n D) (ht : Tie D F) (hx : (Lit.int .i64 x).wf = true)
    (hF : F x = some (.slice a m c)) :
    Calls Try.prog 20 #[.pointer (some ⟨gl, 0, none⟩), .int .i64 x] w fun e w' => e = .returned (.tuple #[.slice a m c, .bool true]) ∧ w' = w := by
  have k := hl.c1
  have HM : Hid (w.ownsMap Try.prog 3 tokR b n D) := hm
  have HT : Hid (Tie D F) := ht
  have HF : Hid (F x = some (.slice a m c)) := hF
  clear hl hm ht hF
  have hrun : (Instr.lookup 52 (.map (some b)) (.int .i64 x) true).run Try.prog w = .ok (.tuple #[.slice a m c, .bool true]) w := by
    obtain ⟨v, ps, hrun, hv⟩ := World.ownsMap.look_ok HM.out law3 Try.underlying52 (zero22 w) (show tokR (.slice none 0 0) = some (.held (.slice none 0 0), []) from rfl) (key3 hx)
    have h1 := HT.out.atK x (.held (.slice none 0 0))
    have h2 := HT.out.has x
    rw [HF.out] at h1 h2
    rw [h1] at hv
    rw [h2] at hrun
    simp only [tokR, Option.some.injEq, Prod.mk.injEq, DataW.held.injEq] at hv
    rw [hv.1] at hrun
    exact hrun
  go_enter Try.func20, Try.ntmps20
  go_wp2
  go_ret2
  exact ⟨rfl, rfl⟩

end Go.Proofs.Qxb6619264a.Cl
