/-
  The ceilings' model: its memory; making it; 'note'.
-/
import Derived.Test.Qxb6617267aCeil
namespace Go.Proofs.Qxb6617267a
open Go.ChangeShapes Go.WideShapes Go.ChangeAt Go.RowKit
set_option linter.unusedVariables false
set_option linter.unusedSimpArgs false

/-- The model's memory: four maps in the blocks B .. B + 3, the struct in block B + 4, a row of items. -/
structure Mod (w : World) (B n : Nat) (v : Value) (l : List ByteArray) (S : Nat → ByteArray → Option Value) : Prop where
  q : w.heap[B + 4]? = some (.cells #[v, .map (some B), .map (some (B + 1)), .map (some (B + 2)), .map (some (B + 3))] 68 (0, 0))
  row : RowS w B v l
  len : l.length ≤ n
  maps : ∀ i, i < 4 → ∃ c F, c ≤ n ∧ VMap Try.prog 9 w (B + i) c F ∧ ∀ it, F (sk it) = S i it

def put (S : Nat → ByteArray → Option Value) (i : Nat) (it : ByteArray) (val : Value) : Nat → ByteArray → Option Value := fun j x => if j = i ∧ x = it then some val else S j x

section
variable {w w' : World} {B n : Nat} {v : Value} {l : List ByteArray} {S : Nat → ByteArray → Option Value}

theorem Mod.lt (h : Mod w B n v l S) : B + 4 < w.heap.size := lt_of_heap h.q
theorem Mod.cell0 (h : Mod w B n v l S) : w.cell? ⟨B + 4, 0, none⟩ = some v := by simp [World.cell?, h.q]
theorem Mod.cell1 (h : Mod w B n v l S) : w.cell? ⟨B + 4, 1, none⟩ = some (.map (some B)) := by simp [World.cell?, h.q]
theorem Mod.cell2 (h : Mod w B n v l S) : w.cell? ⟨B + 4, 2, none⟩ = some (.map (some (B + 1))) := by simp [World.cell?, h.q]
theorem Mod.cell3 (h : Mod w B n v l S) : w.cell? ⟨B + 4, 3, none⟩ = some (.map (some (B + 2))) := by simp [World.cell?, h.q]
theorem Mod.cell4 (h : Mod w B n v l S) : w.cell? ⟨B + 4, 4, none⟩ = some (.map (some (B + 3))) := by simp [World.cell?, h.q]

theorem Mod.get (h : Mod w B n v l S) {i : Nat} (hi : i < 4) {t e : TypeId} (ht : Try.prog.underlying t = some (.map 9 e)) {z : Value} (hz : (zeroValue e).run Try.prog w = .ok z w) {it : ByteArray} (hs : it.size ≤ maxLen) {x : Option Value} (hx : S i it = x) :
    (Instr.lookup t (.map (some (B + i))) (.string it) false).run Try.prog w = .ok (x.getD z) w := by
  obtain ⟨c, F, hc, hv, hF⟩ := h.maps i hi
  have := hv.look law9 ht hz (key9 hs)
  rw [hF, hx] at this
  exact this

theorem Mod.put (h : Mod w B n v l S) {i : Nat} (hi : i < 4) {t e : TypeId} (ht : Try.prog.underlying t = some (.map 9 e)) (hn : n < maxLen) {it : ByteArray} (hs : it.size ≤ maxLen) (val : Value) :
    ∃ w', (Instr.mapUpdate t (.map (some (B + i))) (.string it) val).run Try.prog w = .ok () w' ∧ Mod w' B (n + 1) v l (put S i it val) ∧ Below B w w' := by
  obtain ⟨c, F, hc, hv, hF⟩ := h.maps i hi
  obtain ⟨w', hrun, hv', ht'⟩ := hv.store (val := val) law9 ht (by omega) (key9 hs)
  obtain ⟨es, cl, hm⟩ := hv.isMap
  refine ⟨w', hrun, ⟨?_, ?_, by have := h.len; omega, fun j hj => ?_⟩, below_turned (Below.refl _ _) ht' (by omega)⟩
  · rw [(turned_block ht').2 _ (by omega)]; exact h.q
  · refine h.row.congr (fun g hg => (turned_block ht').2 g (fun e => ?_))
    obtain ⟨_, cur, hcur⟩ := h.row.block hg
    rw [e, hm] at hcur; cases hcur
  · by_cases e : j = i
    · subst e
      refine ⟨_, _, Nat.le_trans (grow_le _ _) (by omega), hv', fun x => ?_⟩
      rw [upd_sk]
      unfold Qxb6617267a.put
      by_cases hx : x = it
      · rw [if_pos hx, if_pos ⟨rfl, hx⟩]
      · rw [if_neg hx, if_neg (fun hh => hx hh.2)]; exact hF x
    · obtain ⟨c2, F2, hc2, hv2, hF2⟩ := h.maps j hj
      refine ⟨c2, F2, by omega, hv2.congr ((turned_block ht').2 _ (by omega)), fun x => ?_⟩
      unfold Qxb6617267a.put
      rw [if_neg (fun hh => e hh.1)]; exact hF2 x

/-- Behind 'm.items = append(m.items, it)'. -/
theorem Mod.appended (h : Mod w B n v l S) {W w1 : World} {it : ByteArray} {C : Array Value} {g cap : Nat} (hW : W.heap = (w.alloc (.cells C 9)).heap)
    (hown : w1.ownsRow B 9 1 (.slice (some ⟨g, 0, none⟩) (l.length + 1) cap) (l.length + 1) (l.map Value.string ++ [.string it])) (hg : W.grownBy w1 v.ownBlock) :
    Mod (w1.setCell ⟨B + 4, 0, none⟩ (.slice (some ⟨g, 0, none⟩) (l.length + 1) cap)) B (n + 1) (.slice (some ⟨g, 0, none⟩) (l.length + 1) cap) (l ++ [it]) S := by
  have hWold : ∀ k, k < w.heap.size → W.heap[k]? = w.heap[k]? := fun k hk => by rw [hW]; exact Below.heap_alloc w _ k hk
  have hsz : W.heap.size = w.heap.size + 1 := by rw [hW]; simp
  have hrow : ∀ k, v.ownBlock = some k → ∃ cur, w.heap[k]? = some (.cells cur 9 (0, 0)) := fun k hk => (h.row.block hk).2
  have hlt := h.lt
  have hq1 : w1.heap[B + 4]? = some (.cells #[v, .map (some B), .map (some (B + 1)), .map (some (B + 2)), .map (some (B + 3))] 68 (0, 0)) := by
    rw [hg.block _ (by omega) (fun e => by obtain ⟨cur, hc⟩ := hrow _ e.symm; rw [h.q] at hc; cases hc), hWold _ hlt]; exact h.q
  have hmap : ∀ i, i < 4 → ∀ (c : Nat) (F : Lit → Option Value), VMap Try.prog 9 w (B + i) c F → VMap Try.prog 9 (w1.setCell ⟨B + 4, 0, none⟩ (.slice (some ⟨g, 0, none⟩) (l.length + 1) cap)) (B + i) c F := fun i hi c F hv => by
    obtain ⟨es, cl, hm⟩ := hv.isMap
    refine hv.congr ?_
    rw [Below.heap_setCell _ _ _ _ (by show B + i ≠ B + 4; omega), hg.block _ (by omega) (fun e => by obtain ⟨cur, hc⟩ := hrow _ e.symm; rw [hm] at hc; cases hc), hWold _ (by omega)]
  refine ⟨?_, ?_, by have := h.len; simp; omega, fun i hi => ?_⟩
  · rw [setCell_block hq1]; simp
  · have hr : RowS w1 B (.slice (some ⟨g, 0, none⟩) (l.length + 1) cap) (l ++ [it]) := by unfold RowS; simpa using hown
    have hr' := hr
    unfold RowS at hr'
    refine RowS.congr (w := w1) (by simpa using hr) (fun k hk => Below.heap_setCell _ _ _ _ (fun e => ?_))
    obtain ⟨_, cur, hcur⟩ := hr.block (g := k) (by simpa using hk)
    rw [e, hq1] at hcur; cases hcur
  · obtain ⟨c, F, hc, hv, hF⟩ := h.maps i hi
    exact ⟨c, F, by omega, hmap i hi c F hv, hF⟩

end

/-! ### what the maps hold -/
def specS (A R : ByteArray → Option Int) (i : Nat) (it : ByteArray) : Option Value :=
  match i with
  | 0 => if (A it).isSome then some (.bool true) else none
  | 1 => (A it).map (Value.int .i64)
  | 2 => if (R it).isSome then some (.bool true) else none
  | _ => (R it).map (Value.int .i64)

theorem spec_ext {i j : Nat} {S : Nat → ByteArray → Option Value} {A R : ByteArray → Option Int} (h0 : ∀ x, S 0 x = specS A R 0 x) (h1 : ∀ x, S 1 x = specS A R 1 x) (h2 : ∀ x, S 2 x = specS A R 2 x) (h3 : ∀ x, S 3 x = specS A R 3 x) : ∀ i, i < 4 → ∀ x, S i x = specS A R i x := by
  intro i hi x
  match i, hi with
  | 0, _ => exact h0 x
  | 1, _ => exact h1 x
  | 2, _ => exact h2 x
  | 3, _ => exact h3 x

theorem Mod.ext {w : World} {B n n' : Nat} {v : Value} {l : List ByteArray} {S S' : Nat → ByteArray → Option Value} (h : Mod w B n v l S) (hn : n ≤ n') (e : ∀ i, i < 4 → ∀ x, S i x = S' i x) : Mod w B n' v l S' :=
  ⟨h.q, h.row, by have := h.len; omega, fun i hi => by obtain ⟨c, F, hc, hv, hF⟩ := h.maps i hi; exact ⟨c, F, by omega, hv, fun x => (hF x).trans (e i hi x)⟩⟩

theorem specA_new {A R : ByteArray → Option Int} {it : ByteArray} (p : Int) (hA : A it = none) : ∀ i, i < 4 → ∀ x, put (put (specS A R) 0 it (.bool true)) 1 it (.int .i64 p) i x = specS (setA A it p) R i x := by
  refine spec_ext (i := 0) (j := 0) (fun x => ?_) (fun x => ?_) (fun x => ?_) (fun x => ?_) <;> by_cases e : x = it <;> simp [put, specS, setA, e, hA, addMax]
theorem specA_up {A R : ByteArray → Option Int} {it : ByteArray} {p a : Int} (hA : A it = some a) (h : a < p) : ∀ i, i < 4 → ∀ x, put (specS A R) 1 it (.int .i64 p) i x = specS (setA A it p) R i x := by
  refine spec_ext (i := 0) (j := 0) (fun x => ?_) (fun x => ?_) (fun x => ?_) (fun x => ?_) <;> by_cases e : x = it <;> simp [put, specS, setA, e, hA, addMax, h]
theorem specA_no {A R : ByteArray → Option Int} {it : ByteArray} {p a : Int} (hA : A it = some a) (h : ¬ a < p) : ∀ i, i < 4 → ∀ x, specS A R i x = specS (setA A it p) R i x := by
  refine spec_ext (i := 0) (j := 0) (fun x => ?_) (fun x => ?_) (fun x => ?_) (fun x => ?_) <;> by_cases e : x = it <;> simp only [specS, setA, e, hA, addMax, h, if_true, if_false]
theorem specR_new {A R : ByteArray → Option Int} {it : ByteArray} (p : Int) (hR : R it = none) : ∀ i, i < 4 → ∀ x, put (put (specS A R) 2 it (.bool true)) 3 it (.int .i64 p) i x = specS A (setR R it p true) i x := by
  refine spec_ext (i := 0) (j := 0) (fun x => ?_) (fun x => ?_) (fun x => ?_) (fun x => ?_) <;> by_cases e : x = it <;> simp [put, specS, setR, e, hR, addMax]
theorem specR_up {A R : ByteArray → Option Int} {it : ByteArray} {p a : Int} (hR : R it = some a) (h : a < p) : ∀ i, i < 4 → ∀ x, put (specS A R) 3 it (.int .i64 p) i x = specS A (setR R it p true) i x := by
  refine spec_ext (i := 0) (j := 0) (fun x => ?_) (fun x => ?_) (fun x => ?_) (fun x => ?_) <;> by_cases e : x = it <;> simp [put, specS, setR, e, hR, addMax, h]
theorem specR_no {A R : ByteArray → Option Int} {it : ByteArray} {p a : Int} (hR : R it = some a) (h : ¬ a < p) : ∀ i, i < 4 → ∀ x, specS A R i x = specS A (setR R it p true) i x := by
  refine spec_ext (i := 0) (j := 0) (fun x => ?_) (fun x => ?_) (fun x => ?_) (fun x => ?_) <;> by_cases e : x = it <;> simp [specS, setR, e, hR, addMax, h]
theorem setR_false (R : ByteArray → Option Int) (it : ByteArray) (p : Int) : setR R it p false = R := by funext x; simp [setR]

/-- The model holds A, R. -/
def Model (w : World) (B n : Nat) (A R : ByteArray → Option Int) : Prop := ∃ v l, Mod w B n v l (specS A R) ∧ l.Nodup ∧ ∀ it, it ∈ l ↔ (A it).isSome = true

theorem items_new {A : ByteArray → Option Int} {l : List ByteArray} {it : ByteArray} (p : Int) (hA : A it = none) (h : l.Nodup ∧ ∀ x, x ∈ l ↔ (A x).isSome = true) : (l ++ [it]).Nodup ∧ ∀ x, x ∈ l ++ [it] ↔ (setA A it p x).isSome = true := by
  obtain ⟨h1, h2⟩ := h
  have hni : it ∉ l := fun hh => by have := (h2 it).1 hh; rw [hA] at this; cases this
  refine ⟨?_, fun x => ?_⟩
  · rw [List.nodup_append]
    exact ⟨h1, by simp, fun a ha b hb => by simp at hb; subst hb; exact fun e => hni (e ▸ ha)⟩
  · unfold setA
    by_cases e : x = it
    · simp [e, hA, addMax]
    · simp [e, h2 x]
theorem items_old {A : ByteArray → Option Int} {l : List ByteArray} {it : ByteArray} {a : Int} (p : Int) (hA : A it = some a) (h : l.Nodup ∧ ∀ x, x ∈ l ↔ (A x).isSome = true) : l.Nodup ∧ ∀ x, x ∈ l ↔ (setA A it p x).isSome = true := by
  obtain ⟨h1, h2⟩ := h
  refine ⟨h1, fun x => ?_⟩
  unfold setA
  by_cases e : x = it
  · subst e; rw [if_pos rfl, h2 x, hA]; simp [addMax]
  · rw [if_neg e]; exact h2 x

theorem Model.start (w : World) : Model (((((w.alloc (.map #[] 0)).alloc (.map #[] 0)).alloc (.map #[] 0)).alloc (.map #[] 0)).alloc (.cells #[.slice none 0 0, .map (some w.heap.size), .map (some (w.heap.size + 1)), .map (some (w.heap.size + 2)), .map (some (w.heap.size + 3))] 68)) w.heap.size 0 (fun _ => none) (fun _ => none) := by
  refine ⟨_, [], ⟨?_, RowS.nil _ _, Nat.le_refl _, fun i hi => ⟨0, fun _ => none, Nat.le_refl _, ?_, fun it => ?_⟩⟩, List.nodup_nil, fun it => by simp⟩
  · have := heap_alloc_new ((((w.alloc (.map #[] 0)).alloc (.map #[] 0)).alloc (.map #[] 0)).alloc (.map #[] 0)) (.cells #[.slice none 0 0, .map (some w.heap.size), .map (some (w.heap.size + 1)), .map (some (w.heap.size + 2)), .map (some (w.heap.size + 3))] 68)
    simpa using this
  · match i, hi with
    | 0, _ => exact ((((VMap.made Try.prog 9 w).alloc _).alloc _).alloc _).alloc _
    | 1, _ => have := (((VMap.made Try.prog 9 (w.alloc (.map #[] 0))).alloc (.map #[] 0)).alloc (.map #[] 0)); simp at this; exact this.alloc _
    | 2, _ => have := ((VMap.made Try.prog 9 ((w.alloc (.map #[] 0)).alloc (.map #[] 0))).alloc (.map #[] 0)); simp at this; exact this.alloc _
    | 3, _ => have := (VMap.made Try.prog 9 (((w.alloc (.map #[] 0)).alloc (.map #[] 0)).alloc (.map #[] 0))); simp at this; exact this.alloc _
  · match i, hi with
    | 0, _ => rfl
    | 1, _ => rfl
    | 2, _ => rfl
    | 3, _ => rfl

theorem newModel_any (w : World) : Calls Try.prog 24 #[] w fun e w' => e = .returned (.pointer (some ⟨w.heap.size + 4, 0, none⟩)) ∧ Below w.heap.size w w' ∧ Model w' w.heap.size 0 (fun _ => none) (fun _ => none) := by
  have hmm := @run_makeMap Try.prog
  go_enter Try.func24, Try.ntmps24
  go_wp2_with fail
  go_ret
  refine ⟨rfl, ?_, Model.start w⟩
  exact (((((Below.refl _ _).alloc (by simp) _).alloc (by simp; try omega) _).alloc (by simp; try omega) _).alloc (by simp; try omega) _).alloc (by simp; try omega) _

end Go.Proofs.Qxb6617267a
