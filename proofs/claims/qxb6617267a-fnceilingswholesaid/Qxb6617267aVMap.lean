/-
  A MAP AS A PLAIN FUNCTION FROM KEYS TO VALUES: a thin layer over the kit's 'World.ownsMap', at a reader that hands each element's value on as a token.
-/
import Derived.Maps.RangeWalk
import Derived.Below
namespace Go.Proofs.Qxb6617267a
open Go.RowKit
open Go.Maps (Keyed)
open Go.ChangeMaps Go.WideShapes

/-- An element's value, as it is. -/
def Rv (v : Value) : Option (DataW Value × List MemPlace) := some (.held v, [])
theorem Rv_inv {v : Value} {d : DataW Value} {ps : List MemPlace} (h : Rv v = some (d, ps)) : d = .held v := by
  unfold Rv at h; cases h; rfl

/-- What stands at key kl. -/
def getV (D : DataW Value) (kl : Lit) : Option Value :=
  if Maps.has D kl then (match D.atKey kl .nil with | .held v => some v | _ => none) else none

/-- Block b of w is a map with n entries that holds f. -/
def VMap (P : Program) (k : TypeId) (w : World) (b n : Nat) (f : Lit → Option Value) : Prop :=
  ∃ D, w.ownsMap P k Rv b n D ∧ Maps.size D = n ∧ ∀ kl, getV D kl = f kl

section
variable {P : Program} {k e t : TypeId} {w w' : World} {b n : Nat} {f : Lit → Option Value}

theorem VMap.made (P : Program) (k : TypeId) (w : World) : VMap P k (w.alloc (.map #[] 0)) w.heap.size 0 (fun _ => none) :=
  ⟨.map [], World.ownsMap_made w P k Rv, rfl, fun _ => rfl⟩

theorem VMap.lt (h : VMap P k w b n f) : b < w.heap.size := by obtain ⟨D, h1, _⟩ := h; exact h1.lt

theorem VMap.isMap (h : VMap P k w b n f) : ∃ es c, w.heap[b]? = some (.map es c) := by
  obtain ⟨D, ⟨es, c, h, _⟩, _⟩ := h; exact ⟨es, c, h⟩

theorem VMap.congr (h : VMap P k w b n f) (hb : w'.heap[b]? = w.heap[b]?) : VMap P k w' b n f := by
  obtain ⟨D, ⟨es, c, h1, h2⟩, h3⟩ := h
  exact ⟨D, ⟨es, c, hb.trans h1, h2⟩, h3⟩

theorem VMap.alloc (h : VMap P k w b n f) (o : Obj) : VMap P k (w.alloc o) b n f := by
  obtain ⟨D, h1, h2⟩ := h; exact ⟨D, h1.alloc o, h2⟩

theorem VMap.kept {row : Option Nat} (h : VMap P k w b n f) (hg : w.grownBy w' row) (hne : some b ≠ row) : VMap P k w' b n f := by
  obtain ⟨D, h1, h2⟩ := h; exact ⟨D, h1.kept hg hne, h2⟩

theorem VMap.below {B : Nat} (h : VMap P k w b n f) (hb : Below B w w') (hlt : b < B) : VMap P k w' b n f := h.congr (hb.block b hlt)

theorem VMap.ext {g : Lit → Option Value} (h : VMap P k w b n f) (e : ∀ kl, f kl = g kl) : VMap P k w b n g := by
  obtain ⟨D, h1, h2, h3⟩ := h; exact ⟨D, h1, h2, fun kl => (h3 kl).trans (e kl)⟩

theorem getV_none {D : DataW Value} {kl : Lit} (h : Maps.has D kl = false) : getV D kl = none := by simp [getV, h]
theorem getV_some {D : DataW Value} {kl : Lit} {v : Value} (h : Maps.has D kl = true) (hv : ∀ z, D.atKey kl z = .held v) : getV D kl = some v := by simp [getV, h, hv]

theorem VMap.both (h : VMap P k w b n f) (K : Keyed P k) (ht : P.underlying t = some (.map k e)) {z : Value} (hz : (zeroValue e).run P w = .ok z w) {key : Value} {kl : Lit} (hkey : keyOf P k key = some kl) :
    (Instr.lookup t (.map (some b)) key false).run P w = .ok ((f kl).getD z) w ∧ (Instr.lookup t (.map (some b)) key true).run P w = .ok (.tuple #[(f kl).getD z, .bool (f kl).isSome]) w := by
  obtain ⟨D, hown, hsz, hf⟩ := h
  obtain ⟨es, clock, hb, F, _, rfl⟩ := hown
  have hh := hf kl
  constructor
  · rcases Maps.fit_look false K ht hz hb F hkey with ⟨hrun, _, hat⟩ | ⟨e0, y, _, _, hrun, hRv, hat, _⟩
    · rw [getV_none (Maps.has_false_of_atKey hat)] at hh
      rw [← hh]; exact hrun
    · obtain ⟨d, ps⟩ := y
      have := Rv_inv hRv
      subst this
      rw [getV_some (Maps.has_true_of_atKey hat) hat] at hh
      rw [← hh]; exact hrun
  · rcases Maps.fit_look true K ht hz hb F hkey with ⟨hrun, _, hat⟩ | ⟨e0, y, _, _, hrun, hRv, hat, _⟩
    · rw [getV_none (Maps.has_false_of_atKey hat)] at hh
      rw [← hh]; exact hrun
    · obtain ⟨d, ps⟩ := y
      have := Rv_inv hRv
      subst this
      rw [getV_some (Maps.has_true_of_atKey hat) hat] at hh
      rw [← hh]; exact hrun

theorem VMap.look (h : VMap P k w b n f) (K : Keyed P k) (ht : P.underlying t = some (.map k e)) {z : Value} (hz : (zeroValue e).run P w = .ok z w) {key : Value} {kl : Lit} (hkey : keyOf P k key = some kl) :
    (Instr.lookup t (.map (some b)) key false).run P w = .ok ((f kl).getD z) w := (h.both K ht hz hkey).1

theorem VMap.look_ok (h : VMap P k w b n f) (K : Keyed P k) (ht : P.underlying t = some (.map k e)) {z : Value} (hz : (zeroValue e).run P w = .ok z w) {key : Value} {kl : Lit} (hkey : keyOf P k key = some kl) :
    (Instr.lookup t (.map (some b)) key true).run P w = .ok (.tuple #[(f kl).getD z, .bool (f kl).isSome]) w := (h.both K ht hz hkey).2

/-- How many entries there are behind a store at a key that held x. -/
def grow (x : Option Value) (n : Nat) : Nat := if x.isSome then n else n + 1
theorem grow_le (x : Option Value) (n : Nat) : grow x n ≤ n + 1 := by unfold grow; split <;> omega

/-- The function behind a store. -/
def upd (f : Lit → Option Value) (kl : Lit) (v : Value) : Lit → Option Value := fun x => if x.sameKey kl then some v else f x

theorem VMap.store (h : VMap P k w b n f) (K : Keyed P k) (ht : P.underlying t = some (.map k e)) (hn : n < maxLen) {key val : Value} {kl : Lit} (hkey : keyOf P k key = some kl) :
    ∃ w', (Instr.mapUpdate t (.map (some b)) key val).run P w = .ok () w' ∧ VMap P k w' b (grow (f kl) n) (upd f kl val) ∧ w.mapTurned w' b := by
  obtain ⟨D, hown, hsz, hf⟩ := h
  have tid := hown.tidy K
  have hk := K.key hkey
  obtain ⟨w', hrun, hown', ht'⟩ := hown.store (val := val) K ht hn hkey rfl
  have hhas : Maps.has D kl = (f kl).isSome := by
    rw [← hf kl]
    cases hh : Maps.has D kl
    · simp [getV_none hh]
    · obtain ⟨es, clock, hb, F, _, hD⟩ := hown
      simp only [getV, hh, if_true]
      have hat : ∃ v, D.atKey kl .nil = .held v := by
        subst hD
        have := hh
        obtain ⟨p, hp, hpk⟩ := List.any_eq_true.1 hh
        obtain ⟨x, hx, rfl⟩ := List.mem_map.1 (mem_sorted.1 hp)
        obtain ⟨y, hy⟩ := F.reads x hx
        obtain ⟨z, hz, hzd⟩ := WideElems.rd_val hy
        obtain ⟨zd, zp⟩ := z
        have e1 := Rv_inv hz
        refine ⟨x.val, ?_⟩
        have hkl : (WideElems.rg P k Rv x).1 = kl := WideAt.sameKey_eq hpk
        rw [(atKey_sorted (es.toList.map (WideElems.rg P k Rv)) (Maps.fit_rising K F) kl hk).2 (WideElems.rg P k Rv x) (List.mem_map.2 ⟨x, hx, rfl⟩) hkl, WideElems.rg_of hy, hzd]
        exact e1
      obtain ⟨v, hv⟩ := hat
      rw [hv]; rfl
  have hsize : Maps.size (D.put kl (.held val)) = grow (f kl) n := by rw [Maps.size_put tid, hhas, hsz]; rfl
  refine ⟨w', hrun, ⟨_, ?_, hsize, fun x => ?_⟩, ht'⟩
  · obtain ⟨es, clock, hb, F, hs, hD⟩ := hown'
    refine ⟨es, clock, hb, F, ?_, hD⟩
    rw [← hsize, hD]
    simp [Maps.size, length_sorted]
  · unfold upd
    by_cases e1 : x = kl
    · subst e1
      rw [WideAt.sameKey_self hk, if_pos rfl]
      exact getV_some (Maps.has_put_same tid.isMap hk _) (fun z => Maps.atKey_put_same tid.isMap hk _ _)
    · rw [Maps.sameKey_ne e1, if_neg (by simp), ← hf x]
      unfold getV
      rw [Maps.has_put_other e1, Maps.atKey_put_other e1]

theorem VMap.len (h : VMap P k w b n f) (ht : P.underlying t = some (.map k e)) (ty : TypeId) : (Builtin.len_ #[t] ty #[.map (some b)]).run P w = .ok (.int .i64 n) w := by
  obtain ⟨D, hown, hsz, hf⟩ := h
  rw [← hsz]; exact hown.len ht ty

end

/-- 'm[k] = v' at the operation. -/
theorem wpList_vstore {P : Program} (w : World) {ops : Array Oper} {rest : List Oper} {o : Oper} {a : Act} {Q : Exit → Act → World → Prop} (hg : o.guard = none) (m x v : Operand) (t : TypeId) (hop : o.op = Op.mapUpdate t m x v)
    {k e : TypeId} (K : Keyed P k) (ht : P.underlying t = some (.map k e)) {b n : Nat} {f : Lit → Option Value} (hm : a.eval m = .map (some b)) (h : VMap P k w b n f) (hn : n < maxLen) {key val : Value} {kl : Lit} (hx : a.eval x = key) (hv : a.eval v = val)
    (hkey : keyOf P k key = some kl) (hK : ∀ w', VMap P k w' b (grow (f kl) n) (upd f kl val) → w.mapTurned w' b → wpList P ops Q rest (a.put o.dst undef) w') : wpList P ops Q (o :: rest) a w := by
  refine wpList_plain hg fun K' hK' => ?_
  obtain ⟨w', hrun, r1, r2⟩ := h.store (val := val) K ht hn hkey
  unfold Oper.wp
  simp [execOp, hop, hm, hx, hv, hrun, Result.andThen]
  exact hK' _ _ (hK w' r1 r2)

/-- Behind a store into the map of block b every other block is as it was. -/
theorem turned_block {w w' : World} {b : Nat} (h : w.mapTurned w' b) : w'.heap.size = w.heap.size ∧ ∀ i, i ≠ b → w'.heap[i]? = w.heap[i]? := by
  obtain ⟨es, c, es', c', hb, rfl⟩ := h
  exact ⟨by simp [ChangeMaps.setBlock], fun i hi => ChangeMaps.heap_setBlock_other hb _ hi⟩

theorem below_turned {B : Nat} {a w w' : World} {b : Nat} (h : Below B a w) (ht : w.mapTurned w' b) (hB : B ≤ b) : Below B a w' := by
  have hg := ht.grown
  exact h.trans ⟨hg.os, hg.tape, hg.output, hg.size, fun i hi => (turned_block ht).2 i (by omega)⟩

theorem cell_turned {w w' : World} {b : Nat} (ht : w.mapTurned w' b) {a : Addr} (h : a.block ≠ b) : w'.cell? a = w.cell? a := World.cell?_of_block ((turned_block ht).2 _ h)

/-- The key of a string. -/
def sk (s : ByteArray) : Lit := .string s.data.toList
theorem sk_inj {s t : ByteArray} (h : sk s = sk t) : s = t := by
  unfold sk at h
  cases s with | mk a => cases t with | mk b => cases a; cases b; simp_all
theorem sk_same (s t : ByteArray) : (sk s).sameKey (sk t) = decide (s = t) := by
  by_cases h : s = t
  · subst h; rw [WideAt.sameKey_self (by exact trivial)]; simp
  · rw [Maps.sameKey_ne (fun e => h (sk_inj e))]; simp [h]
theorem upd_sk (f : Lit → Option Value) (s t : ByteArray) (v : Value) : upd f (sk t) v (sk s) = if s = t then some v else f (sk s) := by
  unfold upd; rw [sk_same]; by_cases h : s = t <;> simp [h]

end Go.Proofs.Qxb6617267a
