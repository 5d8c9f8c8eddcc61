/-
  dynamicTarget: its contract.
-/
import Derived.Test.Qxb6616843aArgs
namespace Go.Proofs.Qxb6616843a
open Go.ChangeShapes Go.WideShapes Go.ChangeAt Go.RowKit
set_option linter.unusedVariables false

/-- t is what the first i with g i told names, or init where none is told. -/
def IsTgt (g : Nat → Option Nat) (n init t : Nat) : Prop :=
  (∃ i, i < n ∧ g i = some t ∧ ∀ j, j < i → g j = none) ∨ ((∀ i, i < n → g i = none) ∧ t = init)

set_option maxHeartbeats 1000000 in
theorem target_empty (st d : Nat) (p : Option Addr) (x : ByteArray) (ini : Nat) (w : World) (hx : x.toList.isEmpty = true)
    (h0 : w.cell? ⟨d, 0, none⟩ = some (.pointer (some ⟨ini, 0, none⟩))) (h1 : w.cell? ⟨d, 1, none⟩ = some (.string x)) :
    Calls Try.prog 28 #[.pointer (some ⟨st, 0, none⟩), .pointer (some ⟨d, 0, none⟩)] w fun e w' => e = .returned (.pointer (some ⟨ini, 0, none⟩)) ∧ w' = w := by
  go_enter Try.func28, Try.ntmps28
  go_wp2
  go_ret
  exact ⟨rfl, rfl⟩

set_option maxHeartbeats 1000000 in
theorem target_any (st d : Nat) (a : Option Addr) (n c : Nat) (S : Nat → ByteArray) (x : ByteArray) (ini : Nat) (w : World) (hx : x.toList.isEmpty = false) (hxl : x.size ≤ maxLen)
    {B sb M cnt lim : Nat} {I : ByteArray → Option Nat} {G : ByteArray → ByteArray → Option Nat} (h : Dyn w B sb M cnt lim I G) (hS : IsStrs w a n S)
    (s0 : w.cell? ⟨st, 0, none⟩ = some (.pointer (some ⟨sb, 0, none⟩))) (s4 : w.cell? ⟨st, 4, none⟩ = some (.slice a n c))
    (h0 : w.cell? ⟨d, 0, none⟩ = some (.pointer (some ⟨ini, 0, none⟩))) (h1 : w.cell? ⟨d, 1, none⟩ = some (.string x)) :
    Calls Try.prog 28 #[.pointer (some ⟨st, 0, none⟩), .pointer (some ⟨d, 0, none⟩)] w fun e w' => ∃ t, e = .returned (.pointer (some ⟨t, 0, none⟩)) ∧ IsTgt (fun i => G (S i) x) n ini t ∧ ∃ m, w' = w.drewN m := by
  have sc := h.cell
  have HD := hid h
  have HC := hid hS.2
  have hn := hS.1
  unfold maxLen at hn
  clear h hS
  go_enter Try.func28, Try.ntmps28
  go_wp2
  go_loopg [19] n (fun g i wr => ∃ k m : Nat, g = n - k ∧ k ≤ n ∧ i = .int .i64 k ∧ wr = w.drewN m ∧ ∀ j, j < k → G (S j) x = none)
  case atStart => exact ⟨0, 0, rfl, Nat.zero_le _, rfl, rfl, fun j hj => absurd hj (Nat.not_lt_zero _)⟩
  case round =>
    obtain ⟨k, m, hg, hk, rfl, rfl, hno⟩ := hrel
    have HG := hid hg
    have HN := hid hno
    clear hg hno
    by_cases hlt : k < n
    · obtain ⟨b, off, rfl, hb, hcell, hsl⟩ := HC.out k hlt
      obtain ⟨F, nn, hnn, hv, hF⟩ := HD.out.outer
      have l1 : ∀ q, (Instr.lookup 51 (.map (some M)) (.string (S k)) false).run Try.prog (w.drewN q) = .ok ((F (sk (S k))).getD (.map none)) (w.drewN q) := fun q => (hv.congr (w' := w.drewN q) rfl).look law9 Try.underlying51 (zero63 _) (key9 hsl)
      rw [hF] at l1
      cases hI : I (S k) with
      | none =>
        rw [hI] at l1
        simp only [Option.map_none, Option.getD_none] at l1
        have l2 : ∀ q, (Instr.lookup 63 (.map none) (.string x) true).run Try.prog (w.drewN q) = .ok (.tuple #[.pointer none, .bool false]) (w.drewN q) := fun q => Maps.look_nil true law9 Try.underlying63 (zero37 _) (key9 hxl)
        have hG : G (S k) x = none := HD.out.absent _ hI x
        have HGN := hid hG
        clear hv hF hI hG hsl hxl
        go_wp2
        go_quiet (fail)
        go_wp2
        go_roundg (n - (k + 1))
        case measure => rw [HG.out]; omega
        case rel =>
          refine ⟨k + 1, _, rfl, by omega, by go_num, rfl, fun j hj => ?_⟩
          by_cases e : j = k
          · rw [e]; exact HGN.out
          · exact HN.out j (by omega)
      | some bm =>
        rw [hI] at l1
        simp only [Option.map_some, Option.getD_some] at l1
        obtain ⟨_, _, mm, F', hmm, hv', hF'⟩ := HD.out.inner _ _ hI
        have l2 : ∀ q, (Instr.lookup 63 (.map (some bm)) (.string x) true).run Try.prog (w.drewN q) = .ok (.tuple #[(F' (sk x)).getD (.pointer none), .bool (F' (sk x)).isSome]) (w.drewN q) := fun q => (hv'.congr (w' := w.drewN q) rfl).look_ok law9 Try.underlying63 (zero37 _) (key9 hxl)
        rw [hF'] at l2
        cases hG : G (S k) x with
        | none =>
          rw [hG] at l2
          simp only [Option.map_none, Option.getD_none, Option.isSome_none] at l2
          have HGN := hid hG
          clear hv hF hI hG hsl hxl hv' hF'
          go_wp2
          go_quiet (fail)
          go_wp2
          go_roundg (n - (k + 1))
          case measure => rw [HG.out]; omega
          case rel =>
            refine ⟨k + 1, _, rfl, by omega, by go_num, rfl, fun j hj => ?_⟩
            by_cases e : j = k
            · rw [e]; exact HGN.out
            · exact HN.out j (by omega)
        | some t =>
          rw [hG] at l2
          simp only [Option.map_some, Option.getD_some, Option.isSome_some] at l2
          have HGN := hid hG
          clear hv hF hI hG hsl hxl hv' hF'
          go_wp2
          go_quiet (fail)
          go_wp2
          go_ret
          exact ⟨t, rfl, Or.inl ⟨k, hlt, HGN.out, HN.out⟩, m + nq, World.drewN_drewN _ _ _⟩
    · obtain rfl : k = n := by omega
      clear hxl
      go_wp2
      go_ret
      exact ⟨ini, rfl, Or.inr ⟨HN.out, rfl⟩, _, rfl⟩

/-- ZZdynamicTarget. -/
theorem zzTarget_empty (st d : Nat) (x : ByteArray) (ini : Nat) (w : World) (hx : x.toList.isEmpty = true)
    (h0 : w.cell? ⟨d, 0, none⟩ = some (.pointer (some ⟨ini, 0, none⟩))) (h1 : w.cell? ⟨d, 1, none⟩ = some (.string x)) :
    Calls Try.prog 22 #[.pointer (some ⟨st, 0, none⟩), .pointer (some ⟨d, 0, none⟩)] w fun e w' => e = .returned (.pointer (some ⟨ini, 0, none⟩)) ∧ w = w' := by
  have C := hid (target_empty st d none x ini w hx h0 h1)
  clear h0 h1 hx
  go_enter Try.func22, Try.ntmps22
  go_wp2_with fail
  refine C.out.mono ?_
  rintro e w' ⟨rfl, rfl⟩
  go_wp2_with fail
  go_ret
  exact ⟨rfl, rfl⟩

theorem zzTarget_any (st d : Nat) (a : Option Addr) (n c : Nat) (S : Nat → ByteArray) (x : ByteArray) (ini : Nat) (w : World) (hx : x.toList.isEmpty = false) (hxl : x.size ≤ maxLen)
    {B sb M cnt lim : Nat} {I : ByteArray → Option Nat} {G : ByteArray → ByteArray → Option Nat} (h : Dyn w B sb M cnt lim I G) (hS : IsStrs w a n S)
    (s0 : w.cell? ⟨st, 0, none⟩ = some (.pointer (some ⟨sb, 0, none⟩))) (s4 : w.cell? ⟨st, 4, none⟩ = some (.slice a n c))
    (h0 : w.cell? ⟨d, 0, none⟩ = some (.pointer (some ⟨ini, 0, none⟩))) (h1 : w.cell? ⟨d, 1, none⟩ = some (.string x)) :
    Calls Try.prog 22 #[.pointer (some ⟨st, 0, none⟩), .pointer (some ⟨d, 0, none⟩)] w fun e w' => ∃ t, e = .returned (.pointer (some ⟨t, 0, none⟩)) ∧ IsTgt (fun i => G (S i) x) n ini t ∧ ∃ m, w' = w.drewN m := by
  have C := hid (target_any st d a n c S x ini w hx hxl h hS s0 s4 h0 h1)
  clear h0 h1 hx hxl h hS s0 s4
  go_enter Try.func22, Try.ntmps22
  go_wp2_with fail
  refine C.out.mono ?_
  rintro e w' ⟨t, rfl, ht, m, rfl⟩
  have HT := hid ht
  clear ht
  go_wp2_with fail
  go_ret
  exact ⟨t, rfl, HT.out, m, rfl⟩

end Go.Proofs.Qxb6616843a
