/-
  A slice of operations that came in, opened.
-/
import Derived.Test.Qxb6617267aOps
import Derived.Deep.Slices
namespace Go.Proofs.Qxb6617267a
open Go.ChangeShapes Go.WideShapes Go.ChangeAt Go.RowKit Go.Deep
set_option linter.unusedVariables false

theorem list7 {α : Type} {l : List α} (h : l.length = 7) : ∃ a b c d e f g, l = [a, b, c, d, e, f, g] := by
  match l, h with
  | [a, b, c, d, e, f, g], _ => exact ⟨a, b, c, d, e, f, g, rfl⟩

theorem ops_of {H : Type} {enc : TypeId × Value → H} {w : World} {a : Option Addr} {len cap : Nat} {d : DataW H} {ps : List MemPlace}
    (h : DataW.Trod enc Try.prog w 0 (fun _ => true) true 22 (.slice a len cap) d ps) : ∃ O, IsOps w a len O := by
  obtain ⟨fuel, hf⟩ := h
  have hlt := DataW.trod_lt fuel _ _ _ hf
  have ce : Try.prog.cellsOf 34 = 7 := by kernel_rfl
  have k1 : Try.prog.cellsOf 3 = 1 := by kernel_rfl
  have k2 : Try.prog.cellsOf 9 = 1 := by kernel_rfl
  have k3 : Try.prog.cellsOf 5 = 1 := by kernel_rfl
  have k4 : Try.prog.cellsOf 4 = 1 := by kernel_rfl
  have k5 : Try.prog.cellsOf 32 = 1 := by kernel_rfl
  have k6 : Try.prog.cellsOf 2 = 1 := by kernel_rfl
  rcases open_slice Try.underlying22 hf with ⟨hcs, _⟩ | ⟨x, l, c, m, n, D, Pl, hcs, _, hl, hm, hmm, hx, hel⟩
  · simp [Value.cells] at hcs
    obtain ⟨rfl, rfl, rfl⟩ := hcs
    exact ⟨fun _ => ⟨0, ByteArray.empty, 0, false, 0, 0, ByteArray.empty⟩, Nat.zero_le _, fun i hi => absurd hi (Nat.not_lt_zero _)⟩
  · simp [Value.cells] at hcs
    obtain ⟨rfl, rfl, rfl⟩ := hcs
    simp only [Prod.mk.injEq] at hx
    obtain ⟨-, rfl⟩ := hx
    simp only [if_true] at hmm
    subst hmm
    have each : ∀ i, i < len → ∃ o : OpR, (∀ b off, x = ⟨b, off, none⟩ → OpAt w b (off + i * 7) o) ∧ OpOk o := fun i hi => by
      obtain ⟨cs, h1, h2⟩ := hel i (by omega)
      rw [ce] at h1
      obtain ⟨_, hlen, hcell⟩ := World.cells?_some h1
      obtain ⟨xs, k, hk, hxy, _, hxl, hfi⟩ := DataW.trod_struct Try.underlying34 h2
      obtain ⟨c0, c1, c2, c3, c4, c5, c6, rfl⟩ := list7 hlen
      obtain ⟨y0, y1, y2, y3, y4, y5, y6, rfl⟩ := list7 (hxl.trans rfl)
      have g0 := hfi 0 _ rfl
      have g1 := hfi 1 _ rfl
      have g2 := hfi 2 _ rfl
      have g3 := hfi 3 _ rfl
      have g4 := hfi 4 _ rfl
      have g5 := hfi 5 _ rfl
      have g6 := hfi 6 _ rfl
      simp [k1, k2, k3, k4, k5, k6] at g0 g1 g2 g3 g4 g5 g6
      obtain ⟨n0, e0, _, f0⟩ := DataW.trod_int Try.underlying3 g0
      obtain ⟨s1, e1, _, f1⟩ := DataW.trod_string Try.underlying9 g1
      obtain ⟨n2, e2, _, f2⟩ := DataW.trod_int Try.underlying5 g2
      obtain ⟨b3, e3, _⟩ := DataW.trod_bool Try.underlying4 g3
      obtain ⟨n4, e4, _, f4⟩ := DataW.trod_int Try.underlying32 g4
      obtain ⟨n5, e5, _, f5⟩ := DataW.trod_int Try.underlying2 g5
      obtain ⟨s6, e6, _, f6⟩ := DataW.trod_string Try.underlying9 g6
      simp only [List.cons.injEq, and_true] at e0 e1 e2 e3 e4 e5 e6
      subst e0 e1 e2 e3 e4 e5 e6
      refine ⟨⟨n0, s1, n2, b3, n4, n5, s6⟩, fun b off e => ?_, f1, f6, f4, f5, f2, f0⟩
      subst e
      have cell : ∀ j v, j < 7 → [Value.int .i64 n0, .string s1, .int .u8 n2, .bool b3, .int .u64 n4, .int .i64 n5, .string s6][j]? = some v → w.cell? ⟨b, off + i * 7 + j, none⟩ = some v := fun j v hj hv => by
        have := hcell j hj
        rw [add_add, add_plain, ← Nat.add_assoc] at this
        rw [this]; exact hv
      exact ⟨cell 0 _ (by omega) rfl, cell 1 _ (by omega) rfl, cell 2 _ (by omega) rfl, cell 3 _ (by omega) rfl, cell 4 _ (by omega) rfl, cell 5 _ (by omega) rfl, cell 6 _ (by omega) rfl⟩
    have each' : ∀ i, ∃ o : OpR, i < len → (∀ b off, x = ⟨b, off, none⟩ → OpAt w b (off + i * 7) o) ∧ OpOk o := fun i => by
      by_cases hi : i < len
      · obtain ⟨o, ho⟩ := each i hi; exact ⟨o, fun _ => ho⟩
      · exact ⟨⟨0, ByteArray.empty, 0, false, 0, 0, ByteArray.empty⟩, fun h => absurd h hi⟩
    refine ⟨fun i => Classical.choose (each' i), by omega, fun i hi => ?_⟩
    obtain ⟨h1, h2⟩ := Classical.choose_spec (each' i) hi
    obtain ⟨b, off, spot⟩ := x
    have hspot : spot = none := by
      obtain ⟨cs, h1, _⟩ := hel 0 (by omega)
      rw [ce] at h1
      obtain ⟨_, hlen, hcell⟩ := World.cells?_some h1
      have h0 := hcell 0 (by omega)
      obtain ⟨c0, _, _, _, _, _, _, rfl⟩ := list7 hlen
      simpa [Addr.add] using World.cell?_spot h0
    subst hspot
    exact ⟨b, off, rfl, hlt (.cell b off) (List.mem_append_left _ (MemPlace.mem_row.2 ⟨0, by rw [ce]; omega, by simp⟩)), h1 b off rfl, h2⟩

end Go.Proofs.Qxb6617267a
