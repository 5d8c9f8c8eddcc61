/-
  The functions on the road of the two laws on paths: contracts.
-/
import Derived.Test.Qxb6616843aRows
import Derived.WalkKit
import Derived.ProofKit
import Derived.WalkSpells
import Derived.WalkLawsBesides
import Derived.Deep.QuietTactic
import Derived.BigQuiet
import Derived.Deep.LoopGhost
import Derived.Below
import Derived.Outline
import Derived.SliceStrings
namespace Go.Proofs.Qxb6616843a
open Go.ChangeShapes Go.WideShapes Go.ChangeAt Go.RowKit
set_option linter.unusedVariables false
theorem hid {p : Prop} (h : p) : Hid p := h

set_option maxHeartbeats 400000 in
theorem nilPath_any (w : World) : Calls Try.prog 9 #[] w fun e w' => e = .returned (.pointer none) ∧ w = w' := by
  go_enter Try.func9, Try.ntmps9
  go_wp2
  go_ret
  exact ⟨rfl, rfl⟩

set_option maxHeartbeats 400000 in
theorem level_nil (w : World) : Calls Try.prog 29 #[.pointer none] w fun e w' => e = .returned (.int .i64 0) ∧ w' = w := by
  go_enter Try.func29, Try.ntmps29
  go_wp2
  go_ret
  exact ⟨rfl, rfl⟩

set_option maxHeartbeats 400000 in
theorem level_some (b : Nat) (d : Int) (w : World) (h : w.cell? ⟨b, 3, none⟩ = some (.int .i64 d)) : Calls Try.prog 29 #[.pointer (some ⟨b, 0, none⟩)] w fun e w' => e = .returned (.int .i64 d) ∧ w' = w := by
  go_enter Try.func29, Try.ntmps29
  go_wp2
  go_ret
  exact ⟨rfl, rfl⟩

set_option maxHeartbeats 400000 in
theorem member_nil (s : ByteArray) (w : World) : Calls Try.prog 25 #[.pointer none, .string s] w fun e w' =>
    e = .returned (.pointer (some ⟨w.heap.size, 0, none⟩)) ∧ w' = w.alloc (.cells #[.pointer none, .string s, .int .i64 (-1), .int .i64 1] 50) := by
  go_enter Try.func25, Try.ntmps25
  go_wp2_with (go_at_call 29; refine (level_nil _).mono ?_; rintro e w' ⟨rfl, rfl⟩)
  go_ret
  exact ⟨rfl, rfl⟩

set_option maxHeartbeats 400000 in
theorem member_some (b : Nat) (d : Int) (s : ByteArray) (w : World) (hd0 : 0 ≤ d) (hd1 : d ≤ 65536) (h : w.cell? ⟨b, 3, none⟩ = some (.int .i64 d)) : Calls Try.prog 25 #[.pointer (some ⟨b, 0, none⟩), .string s] w fun e w' =>
    e = .returned (.pointer (some ⟨w.heap.size, 0, none⟩)) ∧ w' = w.alloc (.cells #[.pointer (some ⟨b, 0, none⟩), .string s, .int .i64 (-1), .int .i64 (d + 1)] 50) := by
  go_enter Try.func25, Try.ntmps25
  go_wp2_with (go_at_call 29; refine (level_some _ _ _ h).mono ?_; rintro e w' ⟨rfl, rfl⟩)
  go_ret
  exact ⟨rfl, rfl⟩

set_option maxHeartbeats 400000 in
theorem fields_any (b : Nat) (v0 v1 v2 v3 : Value) (w : World) (h0 : w.cell? ⟨b, 0, none⟩ = some v0) (h1 : w.cell? ⟨b, 1, none⟩ = some v1) (h2 : w.cell? ⟨b, 2, none⟩ = some v2) (h3 : w.cell? ⟨b, 3, none⟩ = some v3) :
    Calls Try.prog 11 #[.pointer (some ⟨b, 0, none⟩)] w fun e w' =>
    e = .returned (.tuple #[v0, v1, v2, v3]) ∧ ∃ n, w' = w.drewN n := by
  go_enter Try.func11, Try.ntmps11
  go_wp2
  go_quiet (fail)
  go_wp2
  exact bodyPost_ret (v := .tuple #[v0, v1, v2, v3]) (by simp [results, Try.results11, go_sem]) rfl ⟨rfl, _, rfl⟩

set_option maxHeartbeats 400000 in
theorem pathMember_nil (s : ByteArray) (w : World) : Calls Try.prog 10 #[.pointer none, .string s] w fun e w' =>
    e = .returned (.pointer (some ⟨w.heap.size, 0, none⟩)) ∧ w' = w.alloc (.cells #[.pointer none, .string s, .int .i64 (-1), .int .i64 1] 50) := by
  go_enter Try.func10, Try.ntmps10
  go_wp2_with (go_at_call 25; refine (member_nil _ _).mono ?_; rintro e w' ⟨rfl, rfl⟩)
  go_ret
  exact ⟨rfl, rfl⟩

set_option maxHeartbeats 400000 in
theorem pathMember_some (b : Nat) (d : Int) (s : ByteArray) (w : World) (hd0 : 0 ≤ d) (hd1 : d ≤ 65536) (h : w.cell? ⟨b, 3, none⟩ = some (.int .i64 d)) : Calls Try.prog 10 #[.pointer (some ⟨b, 0, none⟩), .string s] w fun e w' =>
    e = .returned (.pointer (some ⟨w.heap.size, 0, none⟩)) ∧ w' = w.alloc (.cells #[.pointer (some ⟨b, 0, none⟩), .string s, .int .i64 (-1), .int .i64 (d + 1)] 50) := by
  go_enter Try.func10, Try.ntmps10
  go_wp2_with (go_at_call 25; refine (member_some _ _ _ _ hd0 hd1 h).mono ?_; rintro e w' ⟨rfl, rfl⟩)
  go_ret
  exact ⟨rfl, rfl⟩

/-- What the walk is told of a []string that came in: each element that is there lies in a cell of old memory. -/
def IsStrs (w : World) (a : Option Addr) (n : Nat) (S : Nat → ByteArray) : Prop :=
  n ≤ maxLen ∧ ∀ i, i < n → ∃ b off, a = some ⟨b, off, none⟩ ∧ b < w.heap.size ∧ w.cell? ⟨b, off + i, none⟩ = some (.string (S i)) ∧ (S i).size ≤ maxLen

theorem strs_of {H : Type} {enc : TypeId × Value → H} {P : Program} {w : World} {t e : TypeId} {a : Option Addr} {len cap : Nat} {d : DataW H} {ps : List MemPlace} (ht : P.underlying t = some (.slice e)) (he : P.underlying e = some .string) (hc : P.cellsOf e = 1)
    (h : DataW.Trod enc P w 0 (fun _ => true) true t (.slice a len cap) d ps) : ∃ S, IsStrs w a len S := by
  obtain ⟨fuel, hf⟩ := h
  have hlt := DataW.trod_lt fuel _ _ _ hf
  rcases open_strings ht he hc hf with ⟨hcs, _⟩ | ⟨x, l, c, ss, hcs, _, hl, hm, hz, hx, hcell, hws⟩
  · simp [Value.cells] at hcs
    obtain ⟨rfl, rfl, rfl⟩ := hcs
    exact ⟨fun _ => ByteArray.empty, Nat.zero_le _, fun i hi => absurd hi (Nat.not_lt_zero _)⟩
  · simp [Value.cells] at hcs
    obtain ⟨rfl, rfl, rfl⟩ := hcs
    simp only [Prod.mk.injEq] at hx
    obtain ⟨-, rfl⟩ := hx
    simp only [if_true] at hz
    refine ⟨fun i => ss.getD i ByteArray.empty, by omega, fun i hi => ?_⟩
    have hi' : i < ss.length := by omega
    obtain ⟨b, off, spot⟩ := x
    have h0 := hcell 0 (by omega)
    have hspot : spot = none := by simpa [Addr.add] using World.cell?_spot h0
    subst hspot
    refine ⟨b, off, rfl, ?_, ?_, ?_⟩
    · exact hlt (.cell b off) (MemPlace.mem_row.2 ⟨0, by omega, by simp⟩)
    · rw [← add_plain]; exact hcell i hi'
    · refine hws _ ?_
      simp only [List.getD_eq_getElem?_getD, List.getElem?_eq_getElem hi', Option.getD_some]
      exact List.getElem_mem _

/-- The call returns a bool, whichever, and turns nothing. -/
def AnyBool (w : World) (e : Ending) (w' : World) : Prop := ∃ r : Bool, e = .returned (.bool r) ∧ w = w'
theorem AnyBool.mk (w : World) (r : Bool) : AnyBool w (.returned (.bool r)) w := ⟨r, rfl, rfl⟩

set_option maxHeartbeats 400000 in
theorem bytesChain_any (a : Option Addr) (n c : Nat) (S : Nat → ByteArray) (w : World) (hS : IsStrs w a n S) :
    Calls Try.prog 7 #[.slice a n c] w (AnyBool w) := by
  obtain ⟨hn, hc⟩ := hS
  unfold maxLen at hn
  go_enter Try.func7, Try.ntmps7
  go_wp2
  · go_ret
    exact AnyBool.mk _ _
  go_loop [3, 4] (fun z i => ∃ (k : Nat) (q : Int), k ≤ n ∧ i = .int .i64 k ∧ z = .int .i64 q) (fun _ i => n - (intOf i).toNat)
  case atStart => exact ⟨0, _, Nat.zero_le _, rfl, rfl⟩
  case round =>
    obtain ⟨k, q, hk, rfl, rfl⟩ := hrel
    by_cases hlt : k < n
    · obtain ⟨b, off, rfl, hb, hcell, hsz⟩ := hc k hlt
      unfold maxLen at hsz
      clear hc
      go_wp2
      · go_ret
        exact AnyBool.mk _ _
      · go_ret
        exact AnyBool.mk _ _
      · go_round
        case rel => exact ⟨k + 1, _, by omega, by go_num, rfl⟩
        case measure => simp [intOf]; omega
    · go_wp2
      go_ret
      exact AnyBool.mk _ _

set_option maxHeartbeats 400000 in
theorem pathOver_any (a : Option Addr) (n c : Nat) (S : Nat → ByteArray) (x y : ByteArray) (w : World) (hS : IsStrs w a n S) :
    Calls Try.prog 8 #[.slice a n c, .string x, .string y] w (AnyBool w) := by
  obtain ⟨hn, hc⟩ := hS
  unfold maxLen at hn
  go_enter Try.func8, Try.ntmps8
  go_wp2
  · go_ret
    exact AnyBool.mk _ _
  go_loop [7, 8] (fun z i => ∃ (k : Nat) (q : Int), k ≤ n ∧ i = .int .i64 k ∧ z = .int .i64 q) (fun _ i => n - (intOf i).toNat)
  case atStart => exact ⟨0, _, Nat.zero_le _, rfl, rfl⟩
  case round =>
    obtain ⟨k, q, hk, rfl, rfl⟩ := hrel
    by_cases hlt : k < n
    · obtain ⟨b, off, rfl, hb, hcell, hsz⟩ := hc k hlt
      unfold maxLen at hsz
      clear hc
      go_wp2
      · go_ret
        exact AnyBool.mk _ _
      · go_round
        case rel => exact ⟨k + 1, _, by omega, by go_num, rfl⟩
        case measure => simp [intOf]; omega
    · go_wp2
      go_ret
      exact AnyBool.mk _ _

end Go.Proofs.Qxb6616843a
