/-
  A slice of bindings that came in, opened.
-/
import Derived.Test.Qxb6616843aArgs
import Derived.Deep.SlicePairs
namespace Go.Proofs.Qxb6616843a
open Go.ChangeShapes Go.WideShapes Go.ChangeAt Go.RowKit Go.Deep

theorem binds_of {H : Type} {enc : TypeId × Value → H} {w : World} {a : Option Addr} {len cap : Nat} {d : DataW H} {ps : List MemPlace}
    (h : DataW.Trod enc Try.prog w 0 (fun _ => true) true 30 (.slice a len cap) d ps) : ∃ R A, IsBinds w a len R A := by
  obtain ⟨fuel, hf⟩ := h
  have hlt := DataW.trod_lt fuel _ _ _ hf
  rcases open_slice_pairs Try.underlying30 Try.underlying41 (by kernel_rfl) rfl rfl (by kernel_rfl) (by kernel_rfl) hf with ⟨hcs, _⟩ | ⟨x, l, c, m, n, V0, V1, D0, D1, P0, P1, hcs, _, hl, hm, hmm, hx, hcell⟩
  · simp [Value.cells] at hcs
    obtain ⟨rfl, rfl, rfl⟩ := hcs
    exact ⟨fun _ => ByteArray.empty, fun _ => ByteArray.empty, Nat.zero_le _, fun i hi => absurd hi (Nat.not_lt_zero _)⟩
  · simp [Value.cells] at hcs
    obtain ⟨rfl, rfl, rfl⟩ := hcs
    simp only [Prod.mk.injEq] at hx
    obtain ⟨-, rfl⟩ := hx
    simp only [if_true] at hmm
    subst hmm
    have each : ∀ i, i < len → ∃ q : ByteArray × ByteArray, V0 i = .string q.1 ∧ V1 i = .string q.2 ∧ q.1.size ≤ maxLen ∧ q.2.size ≤ maxLen := fun i hi => by
      obtain ⟨_, _, h3, h4⟩ := hcell i (by omega)
      obtain ⟨s, e1, _, hs⟩ := DataW.trod_string Try.underlying9 h3
      obtain ⟨s', e1', _, hs'⟩ := DataW.trod_string Try.underlying9 h4
      exact ⟨(s, s'), by simpa using e1, by simpa using e1', hs, hs'⟩
    obtain ⟨q, hq⟩ := choose_lt (α := ByteArray × ByteArray) each
    refine ⟨fun i => (q i).1, fun i => (q i).2, by omega, fun i hi => ?_⟩
    obtain ⟨c1, c2, _, _⟩ := hcell i (by omega)
    obtain ⟨e1, e2, s1, s2⟩ := hq i hi
    obtain ⟨b, off, spot⟩ := x
    have hspot : spot = none := by
      have h0 := (hcell 0 (by omega)).1
      simpa [Addr.add] using World.cell?_spot h0
    subst hspot
    refine ⟨b, off, rfl, ?_, ?_, ?_, s1, s2⟩
    · exact hlt (.cell b off) (List.mem_append_left _ (MemPlace.mem_row.2 ⟨0, by omega, by simp⟩))
    · rw [← add_plain, c1, e1]
    · rw [Nat.add_assoc, ← add_plain, c2, e2]

end Go.Proofs.Qxb6616843a
