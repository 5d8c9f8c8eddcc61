/-
  FnCeilingsWhole: zzAddStrings, zzDeclsTooBig.
-/
import Derived.Test.Qxb6617267aDcs
namespace Go.Proofs.Qxb6617267a
open Go.ChangeShapes Go.WideShapes Go.ChangeAt Go.RowKit
set_option linter.unusedVariables false
set_option linter.unusedSimpArgs false

/-- A number, whichever. -/
def AnyInt (w : World) (e : Ending) (w' : World) : Prop := ∃ x : Int, e = .returned (.int .i64 x) ∧ w = w'
theorem AnyInt.mk (w : World) (x : Int) : AnyInt w (.returned (.int .i64 x)) w := ⟨x, rfl, rfl⟩

set_option maxHeartbeats 1000000 in
theorem addStrings_any (a : Option Addr) (c : Nat) (l : List ByteArray) (q : Int) (w : World) (hS : StrsIn w a l) :
    Calls Try.prog 31 #[.slice a l.length c, .int .i64 q] w (AnyInt w) := by
  obtain ⟨hn, hc⟩ := hS
  unfold maxLen at hn
  have HC := hid hc
  clear hc
  obtain ⟨n, hnn⟩ : ∃ n, n = l.length := ⟨_, rfl⟩
  have HN := hid hnn
  rw [← hnn] at hn ⊢
  clear hnn
  go_enter Try.func31, Try.ntmps31
  go_wp2
  go_loopg [1, 5] n (fun g z i wr => ∃ (k : Nat) (q : Int), g = n - k ∧ k ≤ n ∧ i = .int .i64 k ∧ z = .int .i64 q ∧ wr = w)
  case atStart => exact ⟨0, _, rfl, Nat.zero_le _, rfl, rfl, rfl⟩
  case round =>
    obtain ⟨k, q, hg, hk, rfl, rfl, rfl⟩ := hrel
    have HG := hid hg
    clear hg
    by_cases hlt : k < n
    · obtain ⟨b, off, rfl, hb, hcell, hsz⟩ := HC.out k (by rw [← HN.out]; exact hlt)
      obtain ⟨s, hs⟩ : ∃ s, s = l.getD k ByteArray.empty := ⟨_, rfl⟩
      rw [← hs] at hcell hsz
      clear hs
      unfold maxLen at hsz
      go_wp2
      iterate 2 (· go_ret; exact AnyInt.mk _ _)
      · go_roundg (n - (k + 1))
        case measure => rw [HG.out]; omega
        case rel => exact ⟨k + 1, _, rfl, by omega, by go_num, rfl, rfl⟩
    · go_wp2
      go_ret
      exact AnyInt.mk _ _

/-- A bool, whichever; where it is false the declarations are few and short. -/
def Few (n : Nat) (O : Nat → DcR) : Prop := n ≤ 16384 ∧ ∀ i, i < n → (O i).rd.length ≤ 65536 ∧ (O i).wd.length ≤ 65536
def FewBool (n : Nat) (O : Nat → DcR) (w : World) (e : Ending) (w' : World) : Prop := ∃ r : Bool, e = .returned (.bool r) ∧ w = w' ∧ (r = false → Few n O)
theorem FewBool.yes (n : Nat) (O : Nat → DcR) (w : World) : FewBool n O w (.returned (.bool true)) w := ⟨true, rfl, rfl, fun h => by cases h⟩
theorem FewBool.few {n : Nat} {O : Nat → DcR} (h : Few n O) (w : World) (r : Bool) : FewBool n O w (.returned (.bool r)) w := ⟨r, rfl, rfl, fun _ => h⟩

set_option maxRecDepth 100000 in
set_option maxHeartbeats 4000000 in
theorem dcsTooBig_any (a : Option Addr) (n c : Nat) (O : Nat → DcR) (w : World) (hS : IsDcs w a n O) :
    Calls Try.prog 20 #[.slice a n c] w (FewBool n O w) := by
  obtain ⟨hn, hc⟩ := hS
  unfold maxLen at hn
  have HC := hid hc
  clear hc
  by_cases hbig : (16384 : Int) < (n : Int)
  · go_enter Try.func20, Try.ntmps20
    go_wp2
    go_ret
    exact FewBool.yes _ _ _
  have HN : Hid (n ≤ 16384) := by unfold Hid; omega
  go_enter Try.func20, Try.ntmps20
  go_wp2
  go_loopg [3, 4] n (fun g z i wr => ∃ (k : Nat) (q : Int), g = n - k ∧ k ≤ n ∧ i = .int .i64 k ∧ z = .int .i64 q ∧ wr = w ∧ Hid (∀ i, i < k → (O i).rd.length ≤ 65536 ∧ (O i).wd.length ≤ 65536))
  case atStart => exact ⟨0, _, rfl, Nat.zero_le _, rfl, rfl, rfl, fun i hi => by omega⟩
  case round =>
    obtain ⟨k, q, hg, hk, rfl, rfl, rfl, HF⟩ := hrel
    have HG := hid hg
    clear hg
    by_cases hlt : k < n
    · obtain ⟨b, off, rfl, hb, ⟨c0, c1, c2, c3⟩, hwf, hr, hw⟩ := HC.out k hlt
      have hrl := hr.1
      have hwl := hw.1
      unfold maxLen at hrl hwl
      have HR := hid hr
      have HW := hid hw
      clear hr hw
      by_cases h1 : (65536 : Int) < ((O k).rd.length : Int)
      · go_wp2
        go_ret
        exact FewBool.yes _ _ _
      by_cases h2 : (65536 : Int) < ((O k).wd.length : Int)
      · go_wp2
        go_ret
        exact FewBool.yes _ _ _
      have HF2 : Hid (∀ i, i < k + 1 → (O i).rd.length ≤ 65536 ∧ (O i).wd.length ≤ 65536) := fun i hi => by
        by_cases e : i = k
        · subst e; omega
        · exact HF.out i (by omega)
      go_wp2_with fail
      iterate 2 (· go_ret; exact FewBool.yes _ _ _)
      refine (addStrings_any _ _ (O k).rd _ _ HR.out).mono ?_
      rintro e w' ⟨x, rfl, rfl⟩
      go_wp2_with fail
      · go_ret; exact FewBool.yes _ _ _
      refine (addStrings_any _ _ (O k).wd _ _ HW.out).mono ?_
      rintro e w' ⟨x', rfl, rfl⟩
      go_wp2_with fail
      · go_ret; exact FewBool.yes _ _ _
      go_roundg (n - (k + 1))
      case measure => rw [HG.out]; omega
      case rel => exact ⟨k + 1, _, rfl, by omega, by go_num, rfl, rfl, HF2⟩
    · obtain rfl : k = n := by omega
      go_wp2
      go_ret
      exact FewBool.few ⟨HN.out, HF.out⟩ _ _

end Go.Proofs.Qxb6617267a
