/-
  The law on a chain of members: the walk.
-/
import Derived.Test.Qxb6616843aPath
namespace Go.Proofs.Qxb6616843a
open Go.ChangeShapes Go.WideShapes Go.ChangeAt Go.RowKit
set_option linter.unusedVariables false

/-- The k-th place of the chain whose blocks begin at N: nil at 0. -/
def up (N k : Nat) : Option Addr := if k = 0 then none else some ⟨N + (k - 1), 0, none⟩
theorem up_zero (N : Nat) : up N 0 = none := rfl
theorem up_succ (N k : Nat) : up N (k + 1) = some ⟨N + k, 0, none⟩ := rfl

/-- Blocks N .. N + n - 1 hold the chain of members S 0, S 1, .. -/
def IsChain (w : World) (N n : Nat) (S : Nat → ByteArray) : Prop :=
  ∀ j, j < n → w.cell? ⟨N + j, 0, none⟩ = some (.pointer (up N j)) ∧ w.cell? ⟨N + j, 1, none⟩ = some (.string (S j)) ∧ w.cell? ⟨N + j, 2, none⟩ = some (.int .i64 (-1)) ∧ w.cell? ⟨N + j, 3, none⟩ = some (.int .i64 ((j : Int) + 1))

theorem IsChain.step {w : World} {N n : Nat} {S : Nat → ByteArray} (h : IsChain w N n S) (hs : w.heap.size = N + n) :
    IsChain (w.alloc (.cells #[.pointer (up N n), .string (S n), .int .i64 (-1), .int .i64 ((n : Int) + 1)] 50)) N (n + 1) S := by
  intro j hj
  by_cases e : j = n
  · subst e
    refine ⟨?_, ?_, ?_, ?_⟩ <;> rw [World.cell?_alloc_at _ _ _ _ hs.symm] <;> rfl
  · have hlt : N + j < w.heap.size := by omega
    obtain ⟨h0, h1, h2, h3⟩ := h j (by omega)
    refine ⟨?_, ?_, ?_, ?_⟩ <;> rw [World.cell?_alloc_past _ _ _ hlt] <;> assumption

theorem IsChain.alloc {w : World} {N n : Nat} {S : Nat → ByteArray} (h : IsChain w N n S) (hs : N + n ≤ w.heap.size) (o : Obj) : IsChain (w.alloc o) N n S := by
  intro j hj
  have hlt : N + j < w.heap.size := by omega
  obtain ⟨h0, h1, h2, h3⟩ := h j hj
  refine ⟨?_, ?_, ?_, ?_⟩ <;> rw [World.cell?_alloc_past _ _ _ hlt] <;> assumption

theorem pathMember_up (N k : Nat) (s : ByteArray) (w : World) (hk : k ≤ 65536) (h : ∀ j, k = j + 1 → w.cell? ⟨N + j, 3, none⟩ = some (.int .i64 ((j : Int) + 1))) : Calls Try.prog 10 #[.pointer (up N k), .string s] w fun e w' =>
    e = .returned (.pointer (some ⟨w.heap.size, 0, none⟩)) ∧ w' = w.alloc (.cells #[.pointer (up N k), .string s, .int .i64 (-1), .int .i64 ((k : Int) + 1)] 50) := by
  rcases Nat.eq_zero_or_pos k with h0 | h0
  · subst h0
    exact pathMember_nil s w
  · obtain ⟨j, rfl⟩ : ∃ k', k = k' + 1 := ⟨k - 1, by omega⟩
    exact pathMember_some _ _ s w (by omega) (by omega) (h j rfl)

/-- Loop 1's head. -/
structure Build (w : World) (n : Nat) (S : Nat → ByteArray) (k : Nat) (p i : Value) (wr : World) : Prop where
  le : k ≤ n
  i : i = .int .i64 k
  p : p = .pointer (up w.heap.size k)
  size : wr.heap.size = w.heap.size + k
  below : Below w.heap.size w wr
  chain : IsChain wr w.heap.size k S

/-- Loop 2's head: j steps are to go. -/
structure Climb (w : World) (n : Nat) (S : Nat → ByteArray) (j : Nat) (q i : Value) (wr : World) : Prop where
  le : j ≤ n
  i : i = .int .i64 ((j : Int) - 1)
  q : q = .pointer (up w.heap.size j)
  below : Below w.heap.size w wr
  chain : IsChain wr w.heap.size n S

set_option maxHeartbeats 1000000 in
theorem chain_walk (a : Option Addr) (n c : Nat) (S : Nat → ByteArray) (w : World) (hS : IsStrs w a n S) :
    Calls Try.prog 3 #[.slice a n c] w fun e w' => e = .returned (.bool true) ∧ Below w.heap.size w w' := by
  have hS' := hS
  obtain ⟨hn, hc⟩ := hS'
  unfold maxLen at hn
  have HC : Hid (∀ i, i < n → ∃ b off, a = some ⟨b, off, none⟩ ∧ b < w.heap.size ∧ w.cell? ⟨b, off + i, none⟩ = some (.string (S i)) ∧ (S i).size ≤ maxLen) := hc
  have HS : Hid (IsStrs w a n S) := hS
  clear hc hS
  go_enter Try.func3, Try.ntmps3
  go_wp2_with fail
  refine (bytesChain_any a n c S w HS.out).mono ?_
  rintro e w' ⟨r, rfl, rfl⟩
  cases r
  · go_wp2_with fail
    go_ret
    exact ⟨rfl, Below.refl _ _⟩
  by_cases hbig : n ≤ 65536
  rotate_left
  · go_wp2_with fail
    go_ret
    exact ⟨rfl, Below.refl _ _⟩
  go_wp2_with fail
  refine (pathOver_any a n c S _ _ w HS.out).mono ?_
  rintro e w' ⟨r, rfl, rfl⟩
  cases r
  rotate_left
  · go_wp2_with fail
    go_ret
    exact ⟨rfl, Below.refl _ _⟩
  go_wp2_with (go_at_call 9; refine (nilPath_any _).mono ?_; rintro e w' ⟨rfl, rfl⟩)
  go_loopg [3, 4] n (fun g p i wr => ∃ k, g = n - k ∧ Build w n S k p i wr)
  case atStart => exact ⟨0, rfl, Nat.zero_le _, rfl, rfl, rfl, Below.refl _ _, fun j hj => absurd hj (Nat.not_lt_zero _)⟩
  case round =>
    obtain ⟨k, hg, hk, rfl, rfl, hsz, hbel, hch⟩ := hrel
    have HG : Hid (gk = n - k) := hg
    clear hg
    by_cases hlt : k < n
    · obtain ⟨b, off, rfl, hb, hcell, _⟩ := HC.out k hlt
      have hcr : wr.cell? ⟨b, off + k, none⟩ = some (.string (S k)) := by rw [hbel.cell (p := ⟨b, off + k, none⟩) hb]; exact hcell
      have HB : Hid (Below w.heap.size w wr) := hbel
      have HCH : Hid (IsChain wr w.heap.size k S) := hch
      have HSZ : Hid (wr.heap.size = w.heap.size + k) := hsz
      clear hbel hcell hch hsz
      have hd : ∀ j, k = j + 1 → wr.cell? ⟨w.heap.size + j, 3, none⟩ = some (.int .i64 ((j : Int) + 1)) := fun j hj => (HCH.out j (by omega)).2.2.2
      have HD := hid hd
      clear hd
      go_wp2_with (go_at_call 10; refine (pathMember_up _ _ _ _ (by omega) HD.out).mono ?_; rintro e w' ⟨rfl, rfl⟩)
      go_roundg (n - (k + 1))
      case measure => rw [HG.out]; omega
      case rel =>
        have hsz := HSZ.out
        refine ⟨k + 1, rfl, by omega, by go_num, ?_, ?_, HB.out.alloc (by omega) _, HCH.out.step hsz⟩
        · rw [hsz]; rfl
        · simp; omega
    · obtain rfl : k = n := by omega
      have HB : Hid (Below w.heap.size w wr) := hbel
      have HCH : Hid (IsChain wr w.heap.size k S) := hch
      have HSZ : Hid (wr.heap.size = w.heap.size + k) := hsz
      clear hbel hch hsz
      go_wp2_with fail
      go_loopg [5, 6] k (fun g q i wr => Climb w k S g q i wr)
      case atStart => exact ⟨Nat.le_refl _, rfl, rfl, HB.out, HCH.out⟩
      case round =>
        obtain ⟨hj, rfl, rfl, hbel, hch⟩ := hrel
        have HB := hid hbel
        have HCH := hid hch
        clear hbel hch
        rcases Nat.eq_zero_or_pos gk with h0 | h0
        · subst h0
          rw [up_zero]
          go_wp2_with fail
          go_ret
          exact ⟨rfl, HB.out⟩
        · obtain ⟨j, rfl⟩ : ∃ k', gk = k' + 1 := ⟨gk - 1, by omega⟩
          obtain ⟨c0, c1, c2, c3⟩ := HCH.out j (by omega)
          obtain ⟨b, off, rfl, hb, hcell, _⟩ := HC.out j (by omega)
          have hcr : wr.cell? ⟨b, off + j, none⟩ = some (.string (S j)) := by rw [HB.out.cell (p := ⟨b, off + j, none⟩) hb]; exact hcell
          clear hcell
          rw [up_succ, show (((j + 1 : Nat) : Int) - 1) = (j : Int) by omega]
          go_wp2_with (go_at_call 11; refine (fields_any _ _ _ _ _ _ c0 c1 c2 c3).mono ?_; rintro e w' ⟨rfl, m, rfl⟩)
          go_roundg j
          case measure => omega
          case rel => exact ⟨by omega, rfl, rfl, below_drewN HB.out _, fun i hi => HCH.out i hi⟩

end Go.Proofs.Qxb6616843a
