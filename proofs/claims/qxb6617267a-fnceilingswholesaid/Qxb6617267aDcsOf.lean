/-
  A slice of declarations that came in, opened.
-/
import Derived.Test.Qxb6617267aDcs
import Derived.Deep.Slices
import Derived.SliceStrings
namespace Go.Proofs.Qxb6617267a
open Go.ChangeShapes Go.WideShapes Go.ChangeAt Go.RowKit Go.Deep
set_option linter.unusedVariables false

theorem list4 {α : Type} {l : List α} (h : l.length = 4) : ∃ a b c d, l = [a, b, c, d] := by
  match l, h with
  | [a, b, c, d], _ => exact ⟨a, b, c, d, rfl⟩

theorem strs_in {H : Type} {enc : TypeId × Value → H} {w : World} {fuel : Nat} {v : Value} {x : DataW H × List MemPlace}
    (hf : DataW.trod enc Try.prog w 0 (fun _ => true) true fuel 36 [v] = some x) : ∃ a c l, v = .slice a l.length c ∧ StrsIn w a l := by
  have hlt := DataW.trod_lt fuel _ _ _ hf
  rcases open_strings Try.underlying36 Try.underlying9 (by kernel_rfl) hf with ⟨hcs, _⟩ | ⟨y, l, c, ss, hcs, _, hl, hm, hz, hx, hcell, hws⟩
  · simp only [List.cons.injEq, and_true] at hcs
    subst hcs
    exact ⟨none, 0, [], rfl, Nat.zero_le _, fun i hi => absurd hi (Nat.not_lt_zero _)⟩
  · simp only [List.cons.injEq, and_true] at hcs
    subst hcs
    simp only [if_true] at hz
    have hlen : (ss.take l).length = l := by rw [List.length_take]; omega
    refine ⟨some y, c, ss.take l, by rw [hlen], by rw [hlen]; omega, fun i hi => ?_⟩
    rw [hlen] at hi
    have hi' : i < ss.length := by omega
    obtain ⟨b, off, spot⟩ := y
    have h0 := hcell 0 (by omega)
    have hspot : spot = none := by simpa [Addr.add] using World.cell?_spot h0
    subst hspot
    have e : (ss.take l).getD i ByteArray.empty = ss.getD i ByteArray.empty := by
      simp [List.getD_eq_getElem?_getD, hi]
    rw [e]
    refine ⟨b, off, rfl, ?_, ?_, ?_⟩
    · refine hlt (.cell b off) ?_
      rw [hx]
      exact MemPlace.mem_row.2 ⟨0, by omega, by simp⟩
    · rw [← add_plain]; exact hcell i hi'
    · refine hws _ ?_
      simp only [List.getD_eq_getElem?_getD, List.getElem?_eq_getElem hi', Option.getD_some]
      exact List.getElem_mem _

theorem dcs_of {H : Type} {enc : TypeId × Value → H} {w : World} {a : Option Addr} {len cap : Nat} {d : DataW H} {ps : List MemPlace}
    (h : DataW.Trod enc Try.prog w 0 (fun _ => true) true 44 (.slice a len cap) d ps) : ∃ O, IsDcs w a len O := by
  obtain ⟨fuel, hf⟩ := h
  have hlt := DataW.trod_lt fuel _ _ _ hf
  have ce : Try.prog.cellsOf 48 = 4 := by kernel_rfl
  have k5 : Try.prog.cellsOf 32 = 1 := by kernel_rfl
  have k6 : Try.prog.cellsOf 2 = 1 := by kernel_rfl
  have k7 : Try.prog.cellsOf 36 = 1 := by kernel_rfl
  rcases open_slice Try.underlying44 hf with ⟨hcs, _⟩ | ⟨x, l, c, m, n, D, Pl, hcs, _, hl, hm, hmm, hx, hel⟩
  · simp [Value.cells] at hcs
    obtain ⟨rfl, rfl, rfl⟩ := hcs
    exact ⟨fun _ => ⟨0, 0, none, 0, [], none, 0, []⟩, Nat.zero_le _, fun i hi => absurd hi (Nat.not_lt_zero _)⟩
  · simp [Value.cells] at hcs
    obtain ⟨rfl, rfl, rfl⟩ := hcs
    simp only [Prod.mk.injEq] at hx
    obtain ⟨-, rfl⟩ := hx
    simp only [if_true] at hmm
    subst hmm
    have each : ∀ i, i < len → ∃ o : DcR, (∀ b off, x = ⟨b, off, none⟩ → DcAt w b (off + i * 4) o) ∧ DcOk w o := fun i hi => by
      obtain ⟨cs, h1, h2⟩ := hel i (by omega)
      rw [ce] at h1
      obtain ⟨_, hlen, hcell⟩ := World.cells?_some h1
      obtain ⟨xs, k, hk, hxy, _, hxl, hfi⟩ := DataW.trod_struct Try.underlying48 h2
      obtain ⟨c0, c1, c2, c3, rfl⟩ := list4 hlen
      obtain ⟨y0, y1, y2, y3, rfl⟩ := list4 (hxl.trans rfl)
      have g0 := hfi 0 _ rfl
      have g1 := hfi 1 _ rfl
      have g2 := hfi 2 _ rfl
      have g3 := hfi 3 _ rfl
      simp [k5, k6, k7] at g0 g1 g2 g3
      obtain ⟨n0, e0, _, f0⟩ := DataW.trod_int Try.underlying32 g0
      obtain ⟨n1, e1, _, f1⟩ := DataW.trod_int Try.underlying2 g1
      obtain ⟨ra, rc, rd, rfl, hr⟩ := strs_in g2
      obtain ⟨wa, wc, wd, rfl, hw⟩ := strs_in g3
      simp only [List.cons.injEq, and_true] at e0 e1
      subst e0 e1
      refine ⟨⟨n0, n1, ra, rc, rd, wa, wc, wd⟩, fun b off e => ?_, f0, hr, hw⟩
      subst e
      have cell : ∀ j v, j < 4 → [Value.int .u64 n0, .int .i64 n1, .slice ra rd.length rc, .slice wa wd.length wc][j]? = some v → w.cell? ⟨b, off + i * 4 + j, none⟩ = some v := fun j v hj hv => by
        have := hcell j hj
        rw [add_add, add_plain, ← Nat.add_assoc] at this
        rw [this]; exact hv
      exact ⟨cell 0 _ (by omega) rfl, cell 1 _ (by omega) rfl, cell 2 _ (by omega) rfl, cell 3 _ (by omega) rfl⟩
    have each' : ∀ i, ∃ o : DcR, i < len → (∀ b off, x = ⟨b, off, none⟩ → DcAt w b (off + i * 4) o) ∧ DcOk w o := fun i => by
      by_cases hi : i < len
      · obtain ⟨o, ho⟩ := each i hi; exact ⟨o, fun _ => ho⟩
      · exact ⟨⟨0, 0, none, 0, [], none, 0, []⟩, fun h => absurd h hi⟩
    refine ⟨fun i => Classical.choose (each' i), by omega, fun i hi => ?_⟩
    obtain ⟨h1, h2⟩ := Classical.choose_spec (each' i) hi
    obtain ⟨b, off, spot⟩ := x
    have hspot : spot = none := by
      obtain ⟨cs, h1, _⟩ := hel 0 (by omega)
      rw [ce] at h1
      obtain ⟨_, hlen, hcell⟩ := World.cells?_some h1
      have h0 := hcell 0 (by omega)
      obtain ⟨c0, _, _, _, rfl⟩ := list4 hlen
      simpa [Addr.add] using World.cell?_spot h0
    subst hspot
    exact ⟨b, off, rfl, hlt (.cell b off) (List.mem_append_left _ (MemPlace.mem_row.2 ⟨0, by rw [ce]; omega, by simp⟩)), h1 b off rfl, h2⟩

end Go.Proofs.Qxb6617267a
