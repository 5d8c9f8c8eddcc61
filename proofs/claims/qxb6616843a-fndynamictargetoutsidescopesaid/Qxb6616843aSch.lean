/-
  The schema's two-level map as a plain function; the contracts of dtEnsure, ZZsetDynamic, dynamicTarget over it.
-/
import Derived.Test.Qxb6616843aDyn
namespace Go.Proofs.Qxb6616843a
open Go.ChangeShapes Go.WideShapes Go.ChangeAt Go.RowKit
set_option linter.unusedVariables false

/-- Below B nothing has turned; every block of cells is as it was. -/
structure Step (B : Nat) (w w' : World) : Prop where
  below : Below B w w'
  cells : ∀ (k : Nat) (C : Array Value) (t : TypeId) (fr : Nat × Nat), w.heap[k]? = some (.cells C t fr) → w'.heap[k]? = some (.cells C t fr)

theorem Step.refl (B : Nat) (w : World) : Step B w w := ⟨Below.refl _ _, fun _ _ _ _ h => h⟩
theorem Step.trans {B : Nat} {a b c : World} (h : Step B a b) (k : Step B b c) : Step B a c := ⟨h.below.trans k.below, fun i C t fr e => k.cells i C t fr (h.cells i C t fr e)⟩
theorem lt_of_heap {w : World} {k : Nat} {o : Obj} (h : w.heap[k]? = some o) : k < w.heap.size := (Array.getElem?_eq_some_iff.1 h).1
theorem Step.alloc {B : Nat} {w : World} (hB : B ≤ w.heap.size) (o : Obj) : Step B w (w.alloc o) :=
  ⟨(Below.refl _ _).alloc hB o, fun k C t fr h => by rw [Below.heap_alloc _ _ _ (lt_of_heap h)]; exact h⟩
theorem Step.turned {B : Nat} {w w' : World} {b : Nat} (hB : B ≤ b) (ht : w.mapTurned w' b) : Step B w w' := by
  refine ⟨below_turned (Below.refl _ _) ht hB, fun k C t fr h => ?_⟩
  by_cases e : k = b
  · subst e
    obtain ⟨es, c, _, _, hb, _⟩ := ht
    rw [hb] at h; cases h
  · rw [(turned_block ht).2 k e]; exact h
theorem Step.drewN {B : Nat} (w : World) (n : Nat) : Step B w (w.drewN n) := ⟨below_drewN (Below.refl _ _) n, fun _ _ _ _ h => h⟩

theorem heap_of_cell {w : World} {a : Addr} {v : Value} (h : w.cell? a = some v) : ∃ C t fr, w.heap[a.block]? = some (.cells C t fr) := by
  unfold World.cell? at h
  split at h
  · exact ⟨_, _, _, by assumption⟩
  · cases h

theorem Step.cell {B : Nat} {w w' : World} (h : Step B w w') {a : Addr} {v : Value} (hc : w.cell? a = some v) : w'.cell? a = some v := by
  obtain ⟨C, t, fr, hh⟩ := heap_of_cell hc
  rw [World.cell?_of_block ((h.cells _ _ _ _ hh).trans hh.symm)]; exact hc

theorem Step.strs {B : Nat} {w w' : World} (h : Step B w w') {a : Option Addr} {n : Nat} {S : Nat → ByteArray} (hS : IsStrs w a n S) : IsStrs w' a n S := by
  refine ⟨hS.1, fun i hi => ?_⟩
  obtain ⟨b, off, e, hb, hc, hs⟩ := hS.2 i hi
  exact ⟨b, off, e, Nat.lt_of_lt_of_le hb h.below.size, h.cell hc, hs⟩

theorem cell_ne_map {w : World} {b M n : Nat} {o : Nat} {v : Value} {F : Lit → Option Value} (h : w.cell? ⟨b, o, none⟩ = some v) (hM : VMap Try.prog 9 w M n F) : b ≠ M := by
  intro e
  subst e
  obtain ⟨C, t, fr, hh⟩ := heap_of_cell h
  obtain ⟨es, c, hm⟩ := hM.isMap
  rw [hm] at hh; cases hh

def IsNode (w : World) (x : Nat) : Prop := ∃ C, w.heap[x]? = some (.cells C 66)
theorem IsNode.step {B : Nat} {w w' : World} (h : Step B w w') {x : Nat} (hx : IsNode w x) : IsNode w' x := by
  obtain ⟨C, hC⟩ := hx; exact ⟨C, h.cells _ _ _ _ hC⟩
theorem IsNode.made (w : World) (C : Array Value) : IsNode (w.alloc (.cells C 66)) w.heap.size := ⟨C, by show (w.heap.push _)[w.heap.size]? = _; simp⟩

/-- The schema at block sb: its outer map lies in block M; resource r has the inner map of block I r; anchor a of r leads to the node of block G r a. -/
structure Dyn (w : World) (B sb M cnt lim : Nat) (I : ByteArray → Option Nat) (G : ByteArray → ByteArray → Option Nat) : Prop where
  sbB : B ≤ sb
  cell : w.cell? ⟨sb, 1, none⟩ = some (.map (some M))
  MB : B ≤ M
  outer : ∃ F n, n ≤ cnt ∧ VMap Try.prog 9 w M n F ∧ ∀ r, F (sk r) = (I r).map (fun b => .map (some b))
  inner : ∀ r b, I r = some b → B ≤ b ∧ b ≠ M ∧ ∃ m F, m ≤ lim ∧ VMap Try.prog 9 w b m F ∧ ∀ a, F (sk a) = (G r a).map (fun x => .pointer (some ⟨x, 0, none⟩))
  inj : ∀ r r' b, I r = some b → I r' = some b → r = r'
  absent : ∀ r, I r = none → ∀ a, G r a = none
  nodes : ∀ r a x, G r a = some x → IsNode w x

theorem Dyn.alloc {w : World} {B sb M cnt lim : Nat} {I : ByteArray → Option Nat} {G : ByteArray → ByteArray → Option Nat} (h : Dyn w B sb M cnt lim I G) (hB : B ≤ w.heap.size) (o : Obj) : Dyn (w.alloc o) B sb M cnt lim I G := by
  have st := Step.alloc hB o
  obtain ⟨F, n, hn, hv, hF⟩ := h.outer
  refine ⟨h.sbB, st.cell h.cell, h.MB, ⟨F, n, hn, hv.alloc o, hF⟩, fun r b hr => ?_, h.inj, h.absent, fun r a x hx => (h.nodes r a x hx).step st⟩
  obtain ⟨h1, h2, m, F, hm, hv, hF⟩ := h.inner r b hr
  exact ⟨h1, h2, m, F, hm, hv.alloc o, hF⟩

theorem Dyn.drewN {w : World} {B sb M cnt lim : Nat} {I : ByteArray → Option Nat} {G : ByteArray → ByteArray → Option Nat} (h : Dyn w B sb M cnt lim I G) (n : Nat) : Dyn (w.drewN n) B sb M cnt lim I G :=
  ⟨h.sbB, h.cell, h.MB, h.outer, h.inner, h.inj, h.absent, h.nodes⟩

theorem Dyn.mono {w : World} {B sb M cnt lim cnt' lim' : Nat} {I : ByteArray → Option Nat} {G : ByteArray → ByteArray → Option Nat} (h : Dyn w B sb M cnt lim I G) (hc : cnt ≤ cnt') (hl : lim ≤ lim') : Dyn w B sb M cnt' lim' I G := by
  obtain ⟨F, n, hn, hv, hF⟩ := h.outer
  refine ⟨h.sbB, h.cell, h.MB, ⟨F, n, Nat.le_trans hn hc, hv, hF⟩, fun r b hr => ?_, h.inj, h.absent, h.nodes⟩
  obtain ⟨h1, h2, m, F, hm, hv, hF⟩ := h.inner r b hr
  exact ⟨h1, h2, m, F, Nat.le_trans hm hl, hv, hF⟩

theorem map_ne {w : World} {b b' n n' : Nat} {f f' : Lit → Option Value} {w' : World} (hv : VMap Try.prog 9 w b n f) (ht : w.mapTurned w' b') (hne : b ≠ b') : VMap Try.prog 9 w' b n f := hv.congr ((turned_block ht).2 b hne)

/-- The resource is there behind dtEnsure. -/
theorem Dyn.add {w : World} {B sb M cnt lim : Nat} {I : ByteArray → Option Nat} {G : ByteArray → ByteArray → Option Nat} (h : Dyn w B sb M cnt lim I G) (hB : B ≤ w.heap.size) {r : ByteArray} (hr : I r = none) {w' : World} {F : Lit → Option Value} {n : Nat} (hn : n ≤ cnt)
    (hF : ∀ r, F (sk r) = (I r).map (fun b => .map (some b))) (hM : VMap Try.prog 9 w M n F)
    (hv : VMap Try.prog 9 w' M (grow (F (sk r)) n) (upd F (sk r) (.map (some w.heap.size)))) (ht : (w.alloc (.map #[] 0)).mapTurned w' M) :
    Dyn w' B sb M (cnt + 1) lim (fun x => if x = r then some w.heap.size else I x) G := by
  have hMlt := hM.lt
  have st : Step B w w' := (Step.alloc hB _).trans (Step.turned h.MB ht)
  refine ⟨h.sbB, st.cell h.cell, h.MB, ⟨_, _, Nat.le_trans (grow_le _ _) (by omega), hv, fun x => ?_⟩, fun x b hx => ?_, fun x y b hx hy => ?_, fun x hx a => ?_, fun x a y hy => (h.nodes x a y hy).step st⟩
  · rw [upd_sk]
    by_cases e : x = r
    · simp [e]
    · simp [e, hF]
  · by_cases e : x = r
    · subst e
      simp at hx
      subst hx
      refine ⟨hB, by omega, 0, _, Nat.zero_le _, map_ne (f' := F) (n' := 0) (VMap.made Try.prog 9 w) ht (by omega), fun a => ?_⟩
      rw [h.absent x hr a]; rfl
    · simp only [if_neg e] at hx
      obtain ⟨h1, h2, m, F', hm, hv', hF'⟩ := h.inner x b hx
      exact ⟨h1, h2, m, F', hm, map_ne (f' := F) (n' := 0) (hv'.alloc _) ht h2, hF'⟩
  · have key : ∀ z, I z = some w.heap.size → False := fun z hz => by
      obtain ⟨_, _, m, F', _, hv', _⟩ := h.inner z _ hz
      have := hv'.lt
      omega
    by_cases e : x = r <;> by_cases e' : y = r
    · rw [e, e']
    · simp only [if_pos e, if_neg e'] at hx hy
      cases hx; exact absurd hy (fun z => key _ z)
    · simp only [if_neg e, if_pos e'] at hx hy
      cases hy; exact absurd hx (fun z => key _ z)
    · simp only [if_neg e, if_neg e'] at hx hy
      exact h.inj x y b hx hy
  · by_cases e : x = r
    · simp [e] at hx
    · simp only [if_neg e] at hx
      exact h.absent x hx a

/-- The function behind ZZsetDynamic. -/
def updG (G : ByteArray → ByteArray → Option Nat) (r a : ByteArray) (x : Nat) : ByteArray → ByteArray → Option Nat := fun r' a' => if r' = r ∧ a' = a then some x else G r' a'

theorem Dyn.set {w : World} {B sb M cnt lim : Nat} {I : ByteArray → Option Nat} {G : ByteArray → ByteArray → Option Nat} (h : Dyn w B sb M cnt lim I G) {r a : ByteArray} {b m x : Nat} (hr : I r = some b) {w' : World} {F : Lit → Option Value} (hm : m ≤ lim)
    (hF : ∀ a, F (sk a) = (G r a).map (fun x => .pointer (some ⟨x, 0, none⟩))) (hx : IsNode w x)
    (hv : VMap Try.prog 9 w' b (grow (F (sk a)) m) (upd F (sk a) (.pointer (some ⟨x, 0, none⟩)))) (ht : w.mapTurned w' b) :
    Dyn w' B sb M cnt (lim + 1) I (updG G r a x) := by
  obtain ⟨hbB, hbM, _⟩ := h.inner r b hr
  have st : Step B w w' := Step.turned hbB ht
  obtain ⟨F0, n0, hn0, hv0, hF0⟩ := h.outer
  refine ⟨h.sbB, st.cell h.cell, h.MB, ⟨F0, n0, hn0, map_ne (f' := F) (n' := 0) hv0 ht (Ne.symm hbM), hF0⟩, fun z c hz => ?_, h.inj, fun z hz a' => ?_, fun z a' y hy => ?_⟩
  · by_cases e : z = r
    · subst e
      rw [hr] at hz
      cases hz
      refine ⟨hbB, hbM, _, _, Nat.le_trans (grow_le _ _) (by omega), hv, fun a' => ?_⟩
      rw [upd_sk]
      unfold updG
      by_cases e' : a' = a
      · simp [e']
      · simp [e', hF]
    · obtain ⟨h1, h2, m', F', hm', hv', hF'⟩ := h.inner z c hz
      have hne : c ≠ b := fun ec => e (h.inj z r b (ec ▸ hz) hr)
      refine ⟨h1, h2, m', F', by omega, map_ne (f' := F) (n' := 0) hv' ht hne, fun a' => ?_⟩
      unfold updG
      simp [e, hF']
  · unfold updG
    have e : z ≠ r := fun e => by rw [e, hr] at hz; cases hz
    simp [e, h.absent z hz a']
  · unfold updG at hy
    split at hy
    · cases hy; exact hx.step st
    · exact (h.nodes z a' y hy).step st

set_option maxHeartbeats 400000 in
theorem ensure_any {w : World} {B sb M cnt lim : Nat} {I : ByteArray → Option Nat} {G : ByteArray → ByteArray → Option Nat} (h : Dyn w B sb M cnt lim I G) (hB : B ≤ w.heap.size) (r : ByteArray) (hr : r.size ≤ maxLen) (hc : cnt < maxLen) :
    Calls Try.prog 19 #[.pointer (some ⟨sb, 0, none⟩), .string r] w fun e w' => e = .returned (.tuple #[]) ∧ Step B w w' ∧ ∃ I', Dyn w' B sb M (cnt + 1) lim I' G ∧ (I' r).isSome = true := by
  obtain ⟨F, n, hn, hv, hF⟩ := h.outer
  have hsb : sb < w.heap.size := by obtain ⟨C, t, fr, hh⟩ := heap_of_cell h.cell; exact lt_of_heap hh
  have hF' := hF r
  cases hI : I r with
  | none =>
    rw [hI] at hF'
    have c26 := hasRes_any sb M n F r w hr h.cell hv
    rw [hF'] at c26
    have C26 := hid c26
    have C27 := hid (addRes_any sb M n F r w hr (by omega) hsb h.cell hv)
    have X := hid (fun w' => Dyn.add (w' := w') h hB hI hn hF hv)
    have Y := hid h.MB
    clear h hv hF hF' c26 hr hc hn
    go_enter Try.func19, Try.ntmps19
    go_wp2_with fail
    refine C26.out.mono ?_
    rintro e w' ⟨rfl, rfl⟩
    go_wp2_with fail
    refine C27.out.mono ?_
    rintro e w' ⟨rfl, h1, h2⟩
    go_wp2_with fail
    go_end0
    exact ⟨rfl, (Step.alloc hB _).trans (Step.turned Y.out h2), _, X.out _ h1 h2, by simp⟩
  | some b =>
    rw [hI] at hF'
    have c26 := hasRes_any sb M n F r w hr h.cell hv
    rw [hF'] at c26
    have C26 := hid c26
    have X := hid (Dyn.mono h (Nat.le_succ cnt) (Nat.le_refl lim))
    clear h hv hF hF' c26 hr hc hn
    go_enter Try.func19, Try.ntmps19
    go_wp2_with fail
    refine C26.out.mono ?_
    rintro e w' ⟨rfl, rfl⟩
    go_wp2_with fail
    go_end0
    exact ⟨rfl, Step.refl _ _, I, X.out, by rw [hI]; rfl⟩

theorem set_any {w : World} {B sb M cnt lim : Nat} {I : ByteArray → Option Nat} {G : ByteArray → ByteArray → Option Nat} (h : Dyn w B sb M cnt lim I G) (r a : ByteArray) (x : Nat) (hr : r.size ≤ maxLen) (ha : a.size ≤ maxLen) (hl : lim < maxLen) (hI : (I r).isSome = true) (hx : IsNode w x) :
    Calls Try.prog 20 #[.pointer (some ⟨sb, 0, none⟩), .string r, .string a, .pointer (some ⟨x, 0, none⟩)] w fun e w' => e = .returned (.tuple #[]) ∧ Step B w w' ∧ Dyn w' B sb M cnt (lim + 1) I (updG G r a x) := by
  obtain ⟨b, hb⟩ := Option.isSome_iff_exists.1 hI
  obtain ⟨F, n, hn, hv, hF⟩ := h.outer
  obtain ⟨hbB, hbM, m, F', hm, hv', hF'⟩ := h.inner r b hb
  have e1 := hF r
  rw [hb] at e1
  refine (setDyn_any sb M n F b m F' r a _ w hr ha (by omega) h.cell hv e1 hv').mono ?_
  rintro e w' ⟨rfl, h1, h2⟩
  exact ⟨rfl, Step.turned hbB h2, Dyn.set h hb hm hF' hx h1 h2⟩

end Go.Proofs.Qxb6616843a
