/-
  A slice of operations: read, bounded, copied.
-/
import Derived.Test.Qxb6617267aItem
import Derived.Test.Qxb6617267aVMap
import Derived.Deep.OwnRows
import Derived.Deep.RegionHeld3
import Derived.Deep.QuietTactic
import Derived.BigQuiet
namespace Go.Proofs.Qxb6617267a
open Go.ChangeShapes Go.WideShapes Go.ChangeAt Go.RowKit
set_option linter.unusedVariables false

structure OpR where
  line : Int
  text : ByteArray
  kind : Int
  decl : Bool
  txn : Int
  prio : Int
  item : ByteArray

/-- The operation o lies in the seven cells from off on in block b. -/
def OpAt (w : World) (b off : Nat) (o : OpR) : Prop :=
  w.cell? ⟨b, off, none⟩ = some (.int .i64 o.line) ∧ w.cell? ⟨b, off + 1, none⟩ = some (.string o.text) ∧ w.cell? ⟨b, off + 2, none⟩ = some (.int .u8 o.kind) ∧ w.cell? ⟨b, off + 3, none⟩ = some (.bool o.decl) ∧
  w.cell? ⟨b, off + 4, none⟩ = some (.int .u64 o.txn) ∧ w.cell? ⟨b, off + 5, none⟩ = some (.int .i64 o.prio) ∧ w.cell? ⟨b, off + 6, none⟩ = some (.string o.item)

/-- Its numbers and strings fit their kinds. -/
def OpOk (o : OpR) : Prop := o.text.size ≤ maxLen ∧ o.item.size ≤ maxLen ∧ (Lit.int .u64 o.txn).wf = true ∧ (Lit.int .i64 o.prio).wf = true ∧ (Lit.int .u8 o.kind).wf = true ∧ (Lit.int .i64 o.line).wf = true

def IsOps (w : World) (a : Option Addr) (n : Nat) (O : Nat → OpR) : Prop :=
  n ≤ maxLen ∧ ∀ i, i < n → ∃ b off, a = some ⟨b, off, none⟩ ∧ b < w.heap.size ∧ OpAt w b (off + i * 7) (O i) ∧ OpOk (O i)

theorem OpAt.below {w w' : World} {B b off : Nat} {o : OpR} (h : OpAt w b off o) (hb : Below B w w') (hlt : b < B) : OpAt w' b off o := by
  have e : ∀ k, w'.cell? ⟨b, k, none⟩ = w.cell? ⟨b, k, none⟩ := fun k => hb.cell (p := ⟨b, k, none⟩) hlt
  unfold OpAt
  rw [e, e, e, e, e, e, e]; exact h

theorem IsOps.below {w w' : World} {a : Option Addr} {n : Nat} {O : Nat → OpR} (h : IsOps w a n O) (hb : Below w.heap.size w w') : IsOps w' a n O := by
  refine ⟨h.1, fun i hi => ?_⟩
  obtain ⟨b, off, e, hlt, h1, h2⟩ := h.2 i hi
  exact ⟨b, off, e, Nat.lt_of_lt_of_le hlt hb.size, h1.below hb hlt, h2⟩

set_option maxHeartbeats 1000000 in
theorem bytesDecl_any (f : Nat) (hf : f = 7 ∨ f = 27) (a : Option Addr) (n c : Nat) (O : Nat → OpR) (all : Bool) (w : World) (hS : IsOps w a n O) :
    Calls Try.prog f #[.slice a n c, .bool all] w (AnyBool w) := by
  obtain ⟨hn, hc⟩ := hS
  unfold maxLen at hn
  have HC := hid hc
  clear hc
  rcases hf with rfl | rfl
  · go_enter Try.func7, Try.ntmps7
    go_wp2
    · go_ret
      exact AnyBool.mk _ _
    go_loop [5, 6] (fun z i => ∃ (k : Nat) (q : Int), k ≤ n ∧ i = .int .i64 k ∧ z = .int .i64 q) (fun _ i => n - (intOf i).toNat)
    case atStart => exact ⟨0, _, Nat.zero_le _, rfl, rfl⟩
    case round =>
      obtain ⟨k, q, hk, rfl, rfl⟩ := hrel
      by_cases hlt : k < n
      · obtain ⟨b, off, rfl, hb, ⟨_, c1, _, _, _, _, c6⟩, hs1, hs2, _⟩ := HC.out k hlt
        unfold maxLen at hs1 hs2
        go_wp2
        iterate 4 (· go_ret; exact AnyBool.mk _ _)
        · go_round
          case rel => exact ⟨k + 1, _, by omega, by go_num, rfl⟩
          case measure => simp [intOf]; omega
      · go_wp2
        go_ret
        exact AnyBool.mk _ _
  · go_enter Try.func27, Try.ntmps27
    go_wp2
    · go_ret
      exact AnyBool.mk _ _
    go_loop [5, 6] (fun z i => ∃ (k : Nat) (q : Int), k ≤ n ∧ i = .int .i64 k ∧ z = .int .i64 q) (fun _ i => n - (intOf i).toNat)
    case atStart => exact ⟨0, _, Nat.zero_le _, rfl, rfl⟩
    case round =>
      obtain ⟨k, q, hk, rfl, rfl⟩ := hrel
      by_cases hlt : k < n
      · obtain ⟨b, off, rfl, hb, ⟨_, c1, _, _, _, _, c6⟩, hs1, hs2, _⟩ := HC.out k hlt
        unfold maxLen at hs1 hs2
        go_wp2
        iterate 4 (· go_ret; exact AnyBool.mk _ _)
        · go_round
          case rel => exact ⟨k + 1, _, by omega, by go_num, rfl⟩
          case measure => simp [intOf]; omega
      · go_wp2
        go_ret
        exact AnyBool.mk _ _

/-- A bool, whichever; where it is false the slice is short. -/
def ShortBool (n : Nat) (w : World) (e : Ending) (w' : World) : Prop := ∃ r : Bool, e = .returned (.bool r) ∧ w = w' ∧ (r = false → n ≤ 16384)
theorem ShortBool.yes (n : Nat) (w : World) : ShortBool n w (.returned (.bool true)) w := ⟨true, rfl, rfl, fun h => by cases h⟩
theorem ShortBool.short {n : Nat} (h : n ≤ 16384) (w : World) (r : Bool) : ShortBool n w (.returned (.bool r)) w := ⟨r, rfl, rfl, fun _ => h⟩

set_option maxHeartbeats 1000000 in
theorem opsTooBig_any (a : Option Addr) (n c : Nat) (O : Nat → OpR) (w : World) (hS : IsOps w a n O) :
    Calls Try.prog 8 #[.slice a n c] w (ShortBool n w) := by
  obtain ⟨hn, hc⟩ := hS
  unfold maxLen at hn
  have HC := hid hc
  clear hc
  by_cases hbig : (16384 : Int) < (n : Int)
  · go_enter Try.func8, Try.ntmps8
    go_wp2
    go_ret
    exact ShortBool.yes _ _
  have HN : Hid (n ≤ 16384) := by unfold Hid; omega
  go_enter Try.func8, Try.ntmps8
  go_wp2
  go_loop [3, 4] (fun z i => ∃ (k : Nat) (q : Int), k ≤ n ∧ i = .int .i64 k ∧ z = .int .i64 q) (fun _ i => n - (intOf i).toNat)
  case atStart => exact ⟨0, _, Nat.zero_le _, rfl, rfl⟩
  case round =>
    obtain ⟨k, q, hk, rfl, rfl⟩ := hrel
    by_cases hlt : k < n
    · obtain ⟨b, off, rfl, hb, ⟨_, c1, _, _, _, _, c6⟩, hs1, hs2, _⟩ := HC.out k hlt
      unfold maxLen at hs1 hs2
      by_cases g1 : (1048576 : Int) < ((O k).text.size : Int)
      · go_wp2
        go_ret
        exact ShortBool.short HN.out _ _
      by_cases g2 : (1048576 : Int) < ((O k).item.size : Int)
      · go_wp2
        go_ret
        exact ShortBool.short HN.out _ _
      go_wp2
      iterate 2 (· go_ret; exact ShortBool.short HN.out _ _)
      · go_round
        case rel => exact ⟨k + 1, _, by omega, by go_num, rfl⟩
        case measure => simp [intOf]; omega
    · go_wp2
      go_ret
      exact ShortBool.short HN.out _ _

end Go.Proofs.Qxb6617267a
