/-
  FnCeilingsWhole: zzCloneStrings, ZZNewDeclaration.
-/
import Derived.Test.Qxb6617267aWhole
import Derived.Test.Qxb6617267aDcsBig
import Derived.Deep.OwnRows
namespace Go.Proofs.Qxb6617267a
open Go.ChangeShapes Go.WideShapes Go.ChangeAt Go.RowKit
set_option linter.unusedVariables false
set_option linter.unusedSimpArgs false

structure CloneR (w : World) (l : List ByteArray) (k : Nat) (i : Value) (wr : World) : Prop where
  le : k ≤ l.length
  i : i = .int .i64 k
  size : wr.heap.size = w.heap.size + 1
  below : Below w.heap.size w wr
  row : ∃ f, wr.rowIs w.heap.size 9 l.length f ∧ ∀ j, j < k → f j = .string (l.getD j ByteArray.empty)

theorem RowS.of_is {w : World} {B g : Nat} {l : List ByteArray} {f : Nat → Value} (hB : B ≤ g) (hl : l.length ≤ maxLen) (h : w.rowIs g 9 l.length f) (hf : ∀ j, j < l.length → f j = .string (l.getD j ByteArray.empty)) : RowS w B (.slice (some ⟨g, 0, none⟩) l.length l.length) l := by
  obtain ⟨c, hc, hs, hi⟩ := h
  refine ⟨by simp, Or.inr ⟨g, l.length, c, rfl, hB, hc, Nat.le_refl _, hl, by omega, ?_⟩⟩
  rw [Nat.mul_one, List.take_of_length_le (by simp [hs])]
  apply List.ext_getElem?
  intro j
  rw [Array.getElem?_toList]
  by_cases hj : j < l.length
  · rw [hi j hj, hf j hj]
    simp [List.getD_eq_getElem?_getD, hj]
  · rw [Array.getElem?_eq_none (by omega), List.getElem?_eq_none (by simp; omega)]

set_option maxHeartbeats 1000000 in
theorem clone_any (a : Option Addr) (c : Nat) (l : List ByteArray) (w : World) (hS : StrsIn w a l) (hn : l.length ≤ 65536) :
    Calls Try.prog 22 #[.slice a l.length c] w fun e w' => ∃ a' c', e = .returned (.slice a' l.length c') ∧ RowS w' w.heap.size (.slice a' l.length c') l ∧ Below w.heap.size w w' := by
  have q36 : ∀ (w : World) (a : Option Addr) (n c n' c' : Nat), (binOp .eql 36 (.slice a n c) (.slice none n' c')).run Try.prog w = .ok (.bool a.isNone) w := fun w a n c n' c' => Lib.run_eql_slice_nil w _ _ a n c n' c' Try.underlying36
  cases a with
  | none =>
    have hn0 : l = [] := by
      rcases Nat.eq_zero_or_pos l.length with h | h
      · exact List.length_eq_zero_iff.1 h
      · obtain ⟨b, off, h, _⟩ := hS.2 0 h; cases h
    subst hn0
    clear hS
    go_enter Try.func22, Try.ntmps22
    go_wp2
    go_ret
    exact ⟨none, 0, rfl, RowS.nil _ _, Below.refl _ _⟩
  | some ad =>
    have HC := hid hS.2
    have HL := hid hS.1
    clear hS
    obtain ⟨n, hnn⟩ : ∃ n, n = l.length := ⟨_, rfl⟩
    have HN := hid hnn
    have hmk := run_make_row' (P := Try.prog) 36 9 (.string ByteArray.empty) 16 Try.underlying36 info9 rfl .i64 .i64 n (by omega) (by omega)
    rw [← hnn] at hn ⊢
    clear hnn
    go_enter Try.func22, Try.ntmps22
    go_wp2
    go_loopg [4] n (fun g i wr => ∃ k, g = n - k ∧ CloneR w l k i wr)
    case atStart => exact ⟨0, rfl, Nat.zero_le _, rfl, by simp, (Below.refl _ _).alloc (Nat.le_refl _) _, ⟨_, by rw [← HN.out]; exact World.rowIs_made w _ n 9, fun j hj => absurd hj (Nat.not_lt_zero _)⟩⟩
    case round =>
      obtain ⟨k, hg, hk, rfl, hsz, hbel, ⟨f, hrow, hf⟩⟩ := hrel
      have HG := hid hg
      have HB := hid hbel
      have HR := hid hrow
      have HF := hid hf
      have HSZ := hid hsz
      have hkn : k ≤ n := by rw [HN.out]; exact hk
      clear hg hbel hrow hf hsz hk
      by_cases hlt : k < n
      · obtain ⟨b, off, he, hb, hcell, _⟩ := HC.out k (by rw [← HN.out]; exact hlt)
        cases he
        have hcr : wr.cell? ⟨b, off + k, none⟩ = some (.string (l.getD k ByteArray.empty)) := by rw [HB.out.cell (p := ⟨b, off + k, none⟩) hb]; exact hcell
        obtain ⟨s, hs⟩ : ∃ s, s = l.getD k ByteArray.empty := ⟨_, rfl⟩
        rw [← hs] at hcr
        have HSS := hid hs
        have hc2 := HR.out.cell (i := k) (by rw [← HN.out]; exact hlt)
        have hfz := HR.out.frozen k
        clear hcell hs
        go_wp2
        go_roundg (n - (k + 1))
        case measure => rw [HG.out]; omega
        case rel =>
          refine ⟨k + 1, rfl, by rw [← HN.out]; omega, by go_num, by simpa [World.setCell] using HSZ.out, HB.out.setCell (Nat.le_refl _) _, ⟨_, HR.out.set k _, fun j hj => ?_⟩⟩
          by_cases e : j = k
          · simp only [if_pos e]; rw [HSS.out, e]
          · simp only [if_neg e]; exact HF.out j (by omega)
      · obtain rfl : k = n := by omega
        go_wp2
        go_ret
        refine ⟨some ⟨w.heap.size, 0, none⟩, k, rfl, ?_, HB.out⟩
        rw [HN.out]
        exact RowS.of_is (Nat.le_refl _) HL.out HR.out (fun j hj => HF.out j (by rw [HN.out]; exact hj))

theorem newDecl_any (p : Int) (a1 a2 : Option Addr) (n1 c1 n2 c2 : Nat) (w : World) : Calls Try.prog 21 #[.int .i64 p, .slice a1 n1 c1, .slice a2 n2 c2] w fun e w' => e = .returned (.pointer (some ⟨w.heap.size, 0, none⟩)) ∧ w' = w.alloc (.cells #[.int .i64 p, .slice a1 n1 c1, .slice a2 n2 c2] 62) := by
  go_enter Try.func21, Try.ntmps21
  go_wp2
  go_ret
  exact ⟨rfl, rfl⟩

end Go.Proofs.Qxb6617267a
