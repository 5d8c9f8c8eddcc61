/-
  FnDynamicTargetOutsideScope: the plain law: which binding is wanted.
-/
import Derived.Test.Qxb6616843aOuter
namespace Go.Proofs.Qxb6616843a
set_option linter.unusedVariables false

/-- The greatest j below k that binds (r, a). -/
def last (R A : Nat → ByteArray) : Nat → ByteArray → ByteArray → Option Nat
  | 0, _, _ => none
  | k + 1, r, a => if r = R k ∧ a = A k then some k else last R A k r a

theorem last_lt (R A : Nat → ByteArray) : ∀ (k : Nat) (r a : ByteArray) (j : Nat), last R A k r a = some j → j < k
  | 0, _, _, _, h => by cases h
  | k + 1, r, a, j, h => by
    unfold last at h
    split at h
    · cases h; omega
    · have := last_lt R A k r a j h; omega

theorem last_none (R A : Nat → ByteArray) (r a : ByteArray) : ∀ k : Nat, (∀ j, j < k → ¬ (r = R j ∧ a = A j)) → last R A k r a = none
  | 0, _ => rfl
  | k + 1, h => by
    unfold last
    rw [if_neg (h k (by omega))]
    exact last_none R A r a k (fun j hj => h j (by omega))

theorem last_some (R A : Nat → ByteArray) (r a : ByteArray) (j : Nat) (hj : r = R j ∧ a = A j) : ∀ k : Nat, j < k → (∀ i, j < i → i < k → ¬ (r = R i ∧ a = A i)) → last R A k r a = some j
  | 0, h, _ => by omega
  | k + 1, h, hm => by
    unfold last
    by_cases e : j = k
    · subst e; rw [if_pos hj]
    · rw [if_neg (hm k (by omega) (by omega))]
      exact last_some R A r a j hj k (by omega) (fun i h1 h2 => hm i h1 (by omega))

/-- The map behind one binding more. -/
theorem last_step (R A : Nat → ByteArray) (k x : Nat) (nb : Nat → Nat) (G : ByteArray → ByteArray → Option Nat) (hG : ∀ r a, G r a = (last R A k r a).map nb) :
    ∀ r a, updG G (R k) (A k) x r a = (last R A (k + 1) r a).map (fun j => if j = k then x else nb j) := by
  intro r a
  unfold updG
  rw [last]
  by_cases h : r = R k ∧ a = A k
  · rw [if_pos h, if_pos h]; simp
  · rw [if_neg h, if_neg h, hG]
    cases hl : last R A k r a with
    | none => rfl
    | some j =>
      have := last_lt R A k r a j hl
      simp only [Option.map_some]
      rw [if_neg (by omega)]

/-- What the nested loops find. -/
def Found (R A S : Nat → ByteArray) (n' : Nat) (x : ByteArray) (k : Nat) (wi : Int) : Prop :=
  (wi = -1 ∧ ∀ i, i < k → ∀ j, j < n' → ¬ (S i = R j ∧ x = A j)) ∨
  ∃ i j : Nat, i < k ∧ j < n' ∧ wi = (j : Int) ∧ (S i = R j ∧ x = A j) ∧ (∀ j', j < j' → j' < n' → ¬ (S i = R j' ∧ x = A j')) ∧ ∀ i', i' < i → ∀ j', j' < n' → ¬ (S i' = R j' ∧ x = A j')

theorem Found.lt {R A S : Nat → ByteArray} {n' : Nat} {x : ByteArray} {k : Nat} {wi : Int} (h : Found R A S n' x k wi) : -1 ≤ wi ∧ wi < (n' : Int) ∨ wi = -1 := by
  rcases h with ⟨rfl, _⟩ | ⟨i, j, _, h, rfl, _⟩
  · exact Or.inr rfl
  · exact Or.inl ⟨by omega, by omega⟩

/-- The block that is wanted when k bindings are laid. -/
def wantB (wi : Int) (k : Nat) (nb : Nat → Nat) (ini : Nat) : Nat := if 0 ≤ wi ∧ wi < (k : Int) then nb wi.toNat else ini

theorem wantB_hit {wi : Int} {k x ini : Nat} {nb : Nat → Nat} (h : (k : Int) = wi) : wantB wi (k + 1) (fun j => if j = k then x else nb j) ini = x := by
  unfold wantB
  subst h
  rw [if_pos (by omega)]
  simp
theorem wantB_miss {wi : Int} {k x ini : Nat} {nb : Nat → Nat} (h : (k : Int) ≠ wi) : wantB wi (k + 1) (fun j => if j = k then x else nb j) ini = wantB wi k nb ini := by
  unfold wantB
  by_cases h1 : 0 ≤ wi ∧ wi < (k : Int)
  · rw [if_pos h1, if_pos (by omega)]
    show (if wi.toNat = k then x else nb wi.toNat) = _
    rw [if_neg (by omega)]
  · rw [if_neg h1, if_neg (by omega)]

theorem tgt_want {R A S : Nat → ByteArray} {n n' ini t : Nat} {x : ByteArray} {wi : Int} {nb : Nat → Nat} {G : ByteArray → ByteArray → Option Nat} (hG : ∀ r a, G r a = (last R A n' r a).map nb) (hf : Found R A S n' x n wi)
    (ht : IsTgt (fun i => G (S i) x) n ini t) : t = wantB wi n' nb ini := by
  rcases hf with ⟨rfl, hno⟩ | ⟨i, j, hi, hj, rfl, hit, hmax, hmin⟩
  · have hnone : ∀ i, i < n → G (S i) x = none := fun i hi => by rw [hG, last_none R A _ _ n' (hno i hi)]; rfl
    rcases ht with ⟨i, hi, hgi, _⟩ | ⟨_, rfl⟩
    · simp only [] at hgi
      rw [hnone i hi] at hgi; cases hgi
    · unfold wantB; rw [if_neg (by omega)]
  · have h1 : G (S i) x = some (nb j) := by rw [hG, last_some R A _ _ j hit n' hj hmax]; rfl
    have h2 : ∀ i', i' < i → G (S i') x = none := fun i' hi' => by rw [hG, last_none R A _ _ n' (hmin i' hi')]; rfl
    have h3 : wantB (j : Int) n' nb ini = nb j := by unfold wantB; rw [if_pos (by omega)]; simp
    rw [h3]
    rcases ht with ⟨i', hi', hgi, hm⟩ | ⟨hall, _⟩
    · simp only [] at hgi hm
      rcases Nat.lt_trichotomy i i' with h | h | h
      · rw [hm i h] at h1; cases h1
      · subst h; rw [h1] at hgi; cases hgi; rfl
      · rw [h2 i' h] at hgi; cases hgi
    · simp only [] at hall
      rw [hall i hi] at h1; cases h1

end Go.Proofs.Qxb6616843a
