/-
  FnCeilingsWhole: the declarations that come in; the tests on their size.
-/
import Derived.Test.Qxb6617267aItem
namespace Go.Proofs.Qxb6617267a
open Go.ChangeShapes Go.WideShapes Go.ChangeAt Go.RowKit
set_option linter.unusedVariables false
set_option linter.unusedSimpArgs false

/-- A []string that came in. -/
def StrsIn (w : World) (a : Option Addr) (l : List ByteArray) : Prop :=
  l.length ≤ maxLen ∧ ∀ i, i < l.length → ∃ b off, a = some ⟨b, off, none⟩ ∧ b < w.heap.size ∧ w.cell? ⟨b, off + i, none⟩ = some (.string (l.getD i ByteArray.empty)) ∧ (l.getD i ByteArray.empty).size ≤ maxLen

theorem StrsIn.below {B : Nat} {w w' : World} {a : Option Addr} {l : List ByteArray} (h : StrsIn w a l) (hb : Below B w w') (hB : w.heap.size ≤ B) : StrsIn w' a l :=
  ⟨h.1, fun i hi => by
    obtain ⟨b, off, h1, h2, h3, h4⟩ := h.2 i hi
    exact ⟨b, off, h1, by have := hb.size; omega, by rw [hb.cell (p := ⟨b, off + i, none⟩) (by show b < B; omega)]; exact h3, h4⟩⟩

structure DcR where
  txn : Int
  prio : Int
  ra : Option Addr
  rc : Nat
  rd : List ByteArray
  wa : Option Addr
  wc : Nat
  wd : List ByteArray

def DcAt (w : World) (b off : Nat) (d : DcR) : Prop :=
  w.cell? ⟨b, off, none⟩ = some (.int .u64 d.txn) ∧ w.cell? ⟨b, off + 1, none⟩ = some (.int .i64 d.prio) ∧ w.cell? ⟨b, off + 2, none⟩ = some (.slice d.ra d.rd.length d.rc) ∧ w.cell? ⟨b, off + 3, none⟩ = some (.slice d.wa d.wd.length d.wc)

def DcOk (w : World) (d : DcR) : Prop := (Lit.int .u64 d.txn).wf = true ∧ StrsIn w d.ra d.rd ∧ StrsIn w d.wa d.wd

def IsDcs (w : World) (a : Option Addr) (n : Nat) (O : Nat → DcR) : Prop :=
  n ≤ maxLen ∧ ∀ i, i < n → ∃ b off, a = some ⟨b, off, none⟩ ∧ b < w.heap.size ∧ DcAt w b (off + i * 4) (O i) ∧ DcOk w (O i)

theorem DcAt.below {w w' : World} {B b off : Nat} {o : DcR} (h : DcAt w b off o) (hb : Below B w w') (hlt : b < B) : DcAt w' b off o := by
  have e : ∀ k, w'.cell? ⟨b, k, none⟩ = w.cell? ⟨b, k, none⟩ := fun k => hb.cell (p := ⟨b, k, none⟩) hlt
  unfold DcAt
  rw [e, e, e, e]; exact h

theorem IsDcs.below {B : Nat} {w w' : World} {a : Option Addr} {n : Nat} {O : Nat → DcR} (h : IsDcs w a n O) (hb : Below B w w') (hB : w.heap.size ≤ B) : IsDcs w' a n O :=
  ⟨h.1, fun i hi => by
    obtain ⟨b, off, h1, h2, h3, h4, h5, h6⟩ := h.2 i hi
    exact ⟨b, off, h1, by have := hb.size; omega, h3.below hb (by omega), h4, h5.below hb hB, h6.below hb hB⟩⟩

set_option maxRecDepth 100000 in
set_option maxHeartbeats 4000000 in
theorem bytesDcs_any (a : Option Addr) (n c : Nat) (O : Nat → DcR) (w : World) (hS : IsDcs w a n O) :
    Calls Try.prog 19 #[.slice a n c] w (AnyBool w) := by
  obtain ⟨hn, hc⟩ := hS
  unfold maxLen at hn
  have HC := hid hc
  clear hc
  go_enter Try.func19, Try.ntmps19
  go_wp2
  · go_ret
    exact AnyBool.mk _ _
  go_loopg [3, 4] n (fun g z i wr => ∃ (k : Nat) (q : Int), g = n - k ∧ k ≤ n ∧ i = .int .i64 k ∧ z = .int .i64 q ∧ wr = w)
  case atStart => exact ⟨0, _, rfl, Nat.zero_le _, rfl, rfl, rfl⟩
  case round =>
    obtain ⟨k, q, hg, hk, rfl, rfl, rfl⟩ := hrel
    have HG := hid hg
    clear hg
    by_cases hlt : k < n
    · obtain ⟨b, off, rfl, hb, ⟨c0, c1, c2, c3⟩, hwf, ⟨hr, hr2⟩, ⟨hw, hw2⟩⟩ := HC.out k hlt
      have HR := hid hr2
      have HW := hid hw2
      clear hr2 hw2
      unfold maxLen at hr hw
      obtain ⟨gk0, hgk0⟩ : ∃ gk0, gk0 = gk := ⟨_, rfl⟩
      have HGE := hid hgk0
      clear hgk0
      go_wp2
      iterate 2 (· go_ret; exact AnyBool.mk _ _)
      go_loopg [3, 5] (O k).rd.length (fun g z i wr' => ∃ (j : Nat) (q : Int), g = (O k).rd.length - j ∧ j ≤ (O k).rd.length ∧ i = .int .i64 j ∧ z = .int .i64 q ∧ wr' = wr)
      case atStart => exact ⟨0, _, rfl, Nat.zero_le _, rfl, rfl, rfl⟩
      case round =>
        obtain ⟨j, q, hg, hj, rfl, rfl, rfl⟩ := hrel
        have HG2 := hid hg
        clear hg
        by_cases hjl : j < (O k).rd.length
        · obtain ⟨b', off', hra, hb', hcell, hsz⟩ := HR.out j hjl
          rw [hra] at c2
          obtain ⟨s, hs⟩ : ∃ s, s = (O k).rd.getD j ByteArray.empty := ⟨_, rfl⟩
          rw [← hs] at hcell hsz
          clear hs hra
          unfold maxLen at hsz
          go_wp2
          iterate 2 (· go_ret; exact AnyBool.mk _ _)
          · go_roundg ((O k).rd.length - (j + 1))
            case measure => rw [HG2.out]; omega
            case rel => exact ⟨j + 1, _, rfl, by omega, by go_num, rfl, rfl⟩
        · go_wp2
          iterate 2 (· go_ret; exact AnyBool.mk _ _)
          clear HG2
          go_loopg [3, 6] (O k).wd.length (fun g z i wr' => ∃ (j : Nat) (q : Int), g = (O k).wd.length - j ∧ j ≤ (O k).wd.length ∧ i = .int .i64 j ∧ z = .int .i64 q ∧ wr' = wr)
          case atStart => exact ⟨0, _, rfl, Nat.zero_le _, rfl, rfl, rfl⟩
          case round =>
            obtain ⟨j, q, hg, hj, rfl, rfl, rfl⟩ := hrel
            have HG2 := hid hg
            clear hg
            by_cases hjl : j < (O k).wd.length
            · obtain ⟨b', off', hra, hb', hcell, hsz⟩ := HW.out j hjl
              rw [hra] at c3
              obtain ⟨s, hs⟩ : ∃ s, s = (O k).wd.getD j ByteArray.empty := ⟨_, rfl⟩
              rw [← hs] at hcell hsz
              clear hs hra
              unfold maxLen at hsz
              go_wp2
              iterate 2 (· go_ret; exact AnyBool.mk _ _)
              · go_roundg ((O k).wd.length - (j + 1))
                case measure => rw [HG2.out]; omega
                case rel => exact ⟨j + 1, _, rfl, by omega, by go_num, rfl, rfl⟩
            · go_wp2
              go_roundg (n - (k + 1))
              case measure => have := HGE.out; have := HG.out; omega
              case rel => exact ⟨k + 1, _, rfl, by omega, by go_num, rfl, rfl⟩
    · go_wp2
      go_ret
      exact AnyBool.mk _ _

end Go.Proofs.Qxb6617267a
