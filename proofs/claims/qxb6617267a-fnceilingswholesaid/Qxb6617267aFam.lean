/-
  Families of slices of strings that the call owns; the declarations of a schedule.
-/
import Derived.Test.Qxb6617267aLast
import Derived.Deep.AppendLies
namespace Go.Proofs.Qxb6617267a
open Go.ChangeShapes Go.WideShapes Go.ChangeAt Go.RowKit
set_option linter.unusedVariables false

/-- The value v is a slice of the strings l in a row of the call's own. -/
def RowS (w : World) (B : Nat) (v : Value) (l : List ByteArray) : Prop := w.ownsRow B 9 1 v l.length (l.map Value.string)

theorem RowS.nil (w : World) (B : Nat) : RowS w B (.slice none 0 0) [] := World.ownsRow_nil w B 9 1

theorem RowS.congr {w w' : World} {B : Nat} {v : Value} {l : List ByteArray} (h : RowS w B v l) (hb : ∀ g, v.ownBlock = some g → w'.heap[g]? = w.heap[g]?) : RowS w' B v l := by
  obtain ⟨h1, h2⟩ := h
  refine ⟨h1, ?_⟩
  rcases h2 with h2 | ⟨g, cap, cur, rfl, hB, hg, r⟩
  · exact Or.inl h2
  · exact Or.inr ⟨g, cap, cur, rfl, hB, by rw [hb g rfl]; exact hg, r⟩

theorem RowS.block {w : World} {B : Nat} {v : Value} {l : List ByteArray} (h : RowS w B v l) {g : Nat} (hg : v.ownBlock = some g) : B ≤ g ∧ ∃ cur, w.heap[g]? = some (.cells cur 9 (0, 0)) := by
  rcases h.2 with ⟨rfl, _⟩ | ⟨g', cap, cur, rfl, hB, hgg, _⟩
  · cases hg
  · cases hg; exact ⟨hB, cur, hgg⟩

/-- How such a value looks: its length is the list's. -/
theorem RowS.form {w : World} {B : Nat} {v : Value} {l : List ByteArray} (h : RowS w B v l) : ∃ a c, v = .slice a l.length c ∧ ∀ i, i < l.length → ∃ g, a = some ⟨g, 0, none⟩ ∧ w.cell? ⟨g, i, none⟩ = some (.string (l.getD i ByteArray.empty)) := by
  have h' := h
  rcases h.2 with ⟨rfl, h0⟩ | ⟨g, cap, cur, rfl, hB, hgg, _⟩
  · exact ⟨none, 0, by rw [h0], fun i hi => by omega⟩
  · refine ⟨some ⟨g, 0, none⟩, cap, rfl, fun i hi => ⟨g, rfl, ?_⟩⟩
    have := World.ownsRow.cells h' (g := g) rfl i (.string (l.getD i ByteArray.empty)) (by simp [List.getD_eq_getElem?_getD, hi])
    have hadd : (⟨g, 0, none⟩ : Addr).add i = ⟨g, i, none⟩ := by unfold Addr.add; split <;> simp_all
    rwa [hadd] at this

theorem lt_of_heap {w : World} {k : Nat} {o : Obj} (h : w.heap[k]? = some o) : k < w.heap.size := (Array.getElem?_eq_some_iff.1 h).1

/-- A family of such slices, no two in one row. -/
structure Fam {ι : Type} (w : World) (B : Nat) (V : ι → Value) (L : ι → List ByteArray) : Prop where
  rows : ∀ x, RowS w B (V x) (L x)
  apart : ∀ x y g, (V x).ownBlock = some g → (V y).ownBlock = some g → x = y

theorem Fam.congr {ι : Type} {w w' : World} {B : Nat} {V : ι → Value} {L : ι → List ByteArray} (h : Fam w B V L) (hb : ∀ (g : Nat) (cur : Array Value), w.heap[g]? = some (.cells cur 9 (0, 0)) → w'.heap[g]? = w.heap[g]?) : Fam w' B V L :=
  ⟨fun x => (h.rows x).congr (fun g hg => by obtain ⟨_, cur, hc⟩ := (h.rows x).block hg; exact hb g cur hc), h.apart⟩

/-- One member behind an append. -/
theorem Fam.appended {ι : Type} [DecidableEq ι] {w w1 : World} {B : Nat} {V : ι → Value} {L : ι → List ByteArray} (h : Fam w B V L) (x : ι) {s : ByteArray} {g cap H : Nat}
    (hown : w1.ownsRow B 9 1 (.slice (some ⟨g, 0, none⟩) ((L x).length + 1) cap) ((L x).length + 1) ((L x).map Value.string ++ [.string s])) (hg : w.grownBy w1 (V x).ownBlock) (hat : (V x).ownBlock = some g ∨ g = H) (hH : w.heap.size ≤ H) :
    Fam w1 B (fun y => if y = x then .slice (some ⟨g, 0, none⟩) ((L x).length + 1) cap else V y) (fun y => if y = x then L x ++ [s] else L y) := by
  have other : ∀ y g', y ≠ x → (V y).ownBlock = some g' → w1.heap[g']? = w.heap[g']? ∧ g' ≠ g := by
    intro y g' hne hy
    obtain ⟨_, cur, hc⟩ := (h.rows y).block hy
    have hlt := lt_of_heap hc
    refine ⟨hg.block g' hlt (fun e => hne (h.apart y x g' hy e.symm)), fun e => ?_⟩
    subst e
    rcases hat with h1 | h1
    · exact hne (h.apart y x g' hy h1)
    · omega
  refine ⟨fun y => ?_, fun y z g' hy hz => ?_⟩
  · by_cases e : y = x
    · simp only [if_pos e]
      unfold RowS
      simpa using hown
    · simp only [if_neg e]
      exact (h.rows y).congr (fun g' hg' => (other y g' e hg').1)
  · by_cases e : y = x <;> by_cases e' : z = x
    · rw [e, e']
    · simp only [if_pos e, if_neg e'] at hy hz
      cases hy
      exact absurd rfl (other z g e' hz).2
    · simp only [if_neg e, if_pos e'] at hy hz
      cases hz
      exact absurd rfl (other y g e hy).2
    · simp only [if_neg e, if_neg e'] at hy hz
      exact h.apart y z g' hy hz

/-- Some members made empty anew. -/
theorem Fam.reset {ι : Type} {w : World} {B : Nat} {V : ι → Value} {L : ι → List ByteArray} (h : Fam w B V L) (p : ι → Bool) : Fam w B (fun y => if p y then .slice none 0 0 else V y) (fun y => if p y then [] else L y) := by
  refine ⟨fun y => ?_, fun y z g hy hz => ?_⟩
  · by_cases hp : p y = true
    · simp only [if_pos hp]; exact RowS.nil w B
    · simp only [if_neg hp]; exact h.rows y
  · by_cases hp : p y = true
    · simp only [if_pos hp] at hy; cases hy
    · by_cases hp' : p z = true
      · simp only [if_pos hp'] at hz; cases hz
      · simp only [if_neg hp, if_neg hp'] at hy hz; exact h.apart y z g hy hz

theorem Fam.start {ι : Type} (w : World) (B : Nat) : Fam (ι := ι) w B (fun _ => .slice none 0 0) (fun _ => []) :=
  ⟨fun _ => RowS.nil w B, fun x y g h => by cases h⟩

/-- The declarations: the map in block M leads each transaction to its block. -/
structure Decls (w : World) (B M cnt : Nat) (blk : Int → Option Nat) (pr : Int → Int) (V : Int × Bool → Value) (L : Int × Bool → List ByteArray) : Prop where
  MB : B ≤ M
  map : ∃ F, VMap Try.prog 38 w M cnt F ∧ ∀ t, F (uk t) = (blk t).map (fun b => .pointer (some ⟨b, 0, none⟩))
  cell : ∀ t b, blk t = some b → B ≤ b ∧ w.heap[b]? = some (.cells #[.int .i64 (pr t), V (t, false), V (t, true)] 62)
  inj : ∀ t t' b, blk t = some b → blk t' = some b → t = t'
  fam : Fam w B V L

/-- Only blocks that are no part of the declarations have turned. -/
theorem Decls.congr {w w' : World} {B M cnt : Nat} {blk : Int → Option Nat} {pr : Int → Int} {V : Int × Bool → Value} {L : Int × Bool → List ByteArray} (h : Decls w B M cnt blk pr V L)
    (hM : w'.heap[M]? = w.heap[M]?) (hc : ∀ (g : Nat) (cur : Array Value) (t : TypeId), t = 9 ∨ t = 62 → w.heap[g]? = some (.cells cur t (0, 0)) → w'.heap[g]? = w.heap[g]?) : Decls w' B M cnt blk pr V L := by
  obtain ⟨F, hv, hF⟩ := h.map
  refine ⟨h.MB, ⟨F, hv.congr hM, hF⟩, fun t b hb => ?_, h.inj, h.fam.congr (fun g cur e => hc g cur 9 (Or.inl rfl) e)⟩
  obtain ⟨h1, h2⟩ := h.cell t b hb
  exact ⟨h1, (hc b _ 62 (Or.inr rfl) h2).trans h2⟩

end Go.Proofs.Qxb6617267a
