/-
  A slice of bindings that came in; the byte bounds; the clones.
-/
import Derived.Test.Qxb6616843aSch
import Derived.Deep.OwnRows
import Derived.Deep.DeepMust
namespace Go.Proofs.Qxb6616843a
open Go.ChangeShapes Go.WideShapes Go.ChangeAt Go.RowKit
set_option linter.unusedVariables false

/-- What the walk is told of a []Binding: element i's two strings lie in two cells. -/
def IsBinds (w : World) (a : Option Addr) (n : Nat) (R A : Nat → ByteArray) : Prop :=
  n ≤ maxLen ∧ ∀ i, i < n → ∃ b off, a = some ⟨b, off, none⟩ ∧ b < w.heap.size ∧ w.cell? ⟨b, off + i * 2, none⟩ = some (.string (R i)) ∧ w.cell? ⟨b, off + i * 2 + 1, none⟩ = some (.string (A i)) ∧ (R i).size ≤ maxLen ∧ (A i).size ≤ maxLen

set_option maxHeartbeats 1000000 in
theorem dtOver_any (a : Option Addr) (n c : Nat) (S : Nat → ByteArray) (a' : Option Addr) (n' c' : Nat) (R A : Nat → ByteArray) (x y : ByteArray) (w : World) (hS : IsStrs w a n S) (hB : IsBinds w a' n' R A) :
    Calls Try.prog 14 #[.slice a n c, .slice a' n' c', .string x, .string y] w (AnyBool w) := by
  obtain ⟨hn, hc⟩ := hS
  obtain ⟨hn', hc'⟩ := hB
  unfold maxLen at hn hn'
  have HC' := hid hc'
  clear hc'
  go_enter Try.func14, Try.ntmps14
  go_wp2
  · go_ret
    exact AnyBool.mk _ _
  go_loop [9, 10] (fun z i => ∃ (k : Nat) (q : Int), k ≤ n ∧ i = .int .i64 k ∧ z = .int .i64 q) (fun _ i => n - (intOf i).toNat)
  case atStart => exact ⟨0, _, Nat.zero_le _, rfl, rfl⟩
  case round =>
    obtain ⟨k, q, hk, rfl, rfl⟩ := hrel
    by_cases hlt : k < n
    · obtain ⟨b, off, rfl, hb, hcell, hsz⟩ := hc k hlt
      unfold maxLen at hsz
      clear hc
      go_wp2
      · go_ret
        exact AnyBool.mk _ _
      · go_round
        case rel => exact ⟨k + 1, _, by omega, by go_num, rfl⟩
        case measure => simp [intOf]; omega
    · clear hc
      go_wp2
      go_loop [9, 11] (fun z i => ∃ (k : Nat) (q : Int), k ≤ n' ∧ i = .int .i64 k ∧ z = .int .i64 q) (fun _ i => n' - (intOf i).toNat)
      case atStart => exact ⟨0, _, Nat.zero_le _, rfl, rfl⟩
      case round =>
        obtain ⟨k', q', hk', rfl, rfl⟩ := hrel
        by_cases hlt' : k' < n'
        · obtain ⟨b, off, rfl, hb, hcell1, hcell2, hsz1, hsz2⟩ := HC'.out k' hlt'
          unfold maxLen at hsz1 hsz2
          go_wp2
          · go_ret
            exact AnyBool.mk _ _
          · go_ret
            exact AnyBool.mk _ _
          · go_round
            case rel => exact ⟨k' + 1, _, by omega, by go_num, rfl⟩
            case measure => simp [intOf]; omega
        · go_wp2
          go_ret
          exact AnyBool.mk _ _

theorem info9 : (Try.prog.info? 9).map (fun i => (i.zero, i.size, i.bytes)) = some (some (.string ByteArray.empty), 1, 16) := by kernel_rfl

/-- The clone's loop. -/
structure CloneS (w : World) (n : Nat) (S : Nat → ByteArray) (k : Nat) (i : Value) (wr : World) : Prop where
  le : k ≤ n
  i : i = .int .i64 k
  size : wr.heap.size = w.heap.size + 1
  below : Below w.heap.size w wr
  row : ∃ f, wr.rowIs w.heap.size 9 n f ∧ ∀ j, j < k → f j = .string (S j)

set_option maxHeartbeats 1000000 in
theorem cloneStrs_any (a : Option Addr) (n c : Nat) (S : Nat → ByteArray) (w : World) (hS : IsStrs w a n S) (hn : n ≤ 4096) :
    Calls Try.prog 15 #[.slice a n c] w fun e w' => ∃ a' c', e = .returned (.slice a' n c') ∧ n ≤ c' ∧ IsStrs w' a' n S ∧ Below w.heap.size w w' := by
  have q22 : ∀ (w : World) (a : Option Addr) (n c n' c' : Nat), (binOp .eql 22 (.slice a n c) (.slice none n' c')).run Try.prog w = .ok (.bool a.isNone) w := fun w a n c n' c' => Lib.run_eql_slice_nil w _ _ a n c n' c' Try.underlying22
  cases a with
  | none =>
    have hn0 : n = 0 := by
      rcases Nat.eq_zero_or_pos n with h | h
      · exact h
      · obtain ⟨b, off, h, _⟩ := hS.2 0 h; cases h
    subst hn0
    have HS := hid hS
    clear hS
    go_enter Try.func15, Try.ntmps15
    go_wp2
    go_ret
    exact ⟨none, 0, rfl, Nat.le_refl _, HS.out, Below.refl _ _⟩
  | some ad =>
    have HC := hid hS.2
    have HL := hid hS.1
    clear hS
    have hmk := run_make_row' (P := Try.prog) 22 9 (.string ByteArray.empty) 16 Try.underlying22 info9 rfl .i64 .i64 n (by omega) (by omega)
    go_enter Try.func15, Try.ntmps15
    go_wp2
    go_loopg [4] n (fun g i wr => ∃ k, g = n - k ∧ CloneS w n S k i wr)
    case atStart => exact ⟨0, rfl, Nat.zero_le _, rfl, by simp, (Below.refl _ _).alloc (Nat.le_refl _) _, ⟨_, World.rowIs_made w _ n 9, fun j hj => absurd hj (Nat.not_lt_zero _)⟩⟩
    case round =>
      obtain ⟨k, hg, hk, rfl, hsz, hbel, ⟨f, hrow, hf⟩⟩ := hrel
      have HG := hid hg
      have HB := hid hbel
      have HR := hid hrow
      have HF := hid hf
      have HSZ := hid hsz
      clear hg hbel hrow hf hsz
      by_cases hlt : k < n
      · obtain ⟨b, off, he, hb, hcell, _⟩ := HC.out k hlt
        cases he
        have hcr : wr.cell? ⟨b, off + k, none⟩ = some (.string (S k)) := by rw [HB.out.cell (p := ⟨b, off + k, none⟩) hb]; exact hcell
        have hc2 := HR.out.cell hlt
        have hfz := HR.out.frozen k
        clear hcell
        go_wp2
        go_roundg (n - (k + 1))
        case measure => rw [HG.out]; omega
        case rel =>
          refine ⟨k + 1, rfl, by omega, by go_num, by simpa [World.setCell] using HSZ.out, HB.out.setCell (Nat.le_refl _) _, ⟨_, HR.out.set k _, fun j hj => ?_⟩⟩
          by_cases e : j = k
          · simp [e]
          · simp only [if_neg e]; exact HF.out j (by omega)
      · obtain rfl : k = n := by omega
        go_wp2
        go_ret
        refine ⟨some ⟨w.heap.size, 0, none⟩, k, rfl, Nat.le_refl _, ⟨HL.out, fun i hi => ⟨w.heap.size, 0, rfl, by have := HSZ.out; omega, ?_, ?_⟩⟩, HB.out⟩
        · rw [Nat.zero_add, HR.out.cell hi, HF.out i hi]
        · obtain ⟨_, _, _, _, _, h⟩ := HC.out i hi; exact h

theorem info41 : ∃ i, Try.prog.info? 41 = some i ∧ i.zero = some (.agg #[.string ByteArray.empty, .string ByteArray.empty]) ∧ i.size = 2 ∧ i.bytes = 32 := by
  have h : (Try.prog.info? 41).map (fun i => (i.zero, i.size, i.bytes)) = some (some (.agg #[.string ByteArray.empty, .string ByteArray.empty]), 2, 32) := by kernel_rfl
  obtain ⟨i, hi, hzz⟩ := Option.map_eq_some_iff.1 h
  simp only [Prod.mk.injEq] at hzz
  exact ⟨i, hi, hzz.1, hzz.2.1, hzz.2.2⟩

theorem make41 (n : Nat) (hn : n ≤ 4096) (w : World) : ∃ C : Array Value, (Instr.makeSlice 30 (.int .i64 (n : Int)) (.int .i64 (n : Int))).run Try.prog w = .ok (.slice (some ⟨w.heap.size, 0, none⟩) n n) (w.alloc (.cells C 41)) ∧ C.size = n * 2 := by
  obtain ⟨i, hi, hz, hs, hb⟩ := info41
  have hr := run_make (P := Try.prog) w 30 41 i _ Try.underlying30 hi hz .i64 .i64 n n (by omega) (Int.le_refl _) (by rw [hb]; omega) (by omega)
  simp only [Int.toNat_natCast, hs] at hr
  exact ⟨_, hr, size_madeCells _ _⟩

/-- The clone's loop. -/
structure CloneB (w : World) (n : Nat) (R A : Nat → ByteArray) (k : Nat) (i : Value) (wr : World) : Prop where
  le : k ≤ n
  i : i = .int .i64 k
  size : wr.heap.size = w.heap.size + 1
  below : Below w.heap.size w wr
  row : ∃ f, wr.rowIs w.heap.size 41 (n * 2) f ∧ ∀ j, j < k → f (j * 2) = .string (R j) ∧ f (j * 2 + 1) = .string (A j)

set_option maxHeartbeats 1000000 in
theorem cloneBinds_any (a : Option Addr) (n c : Nat) (R A : Nat → ByteArray) (w : World) (hS : IsBinds w a n R A) (hn : n ≤ 4096) :
    Calls Try.prog 16 #[.slice a n c] w fun e w' => ∃ a' c', e = .returned (.slice a' n c') ∧ IsBinds w' a' n R A ∧ Below w.heap.size w w' := by
  have q22 : ∀ (w : World) (a : Option Addr) (n c n' c' : Nat), (binOp .eql 30 (.slice a n c) (.slice none n' c')).run Try.prog w = .ok (.bool a.isNone) w := fun w a n c n' c' => Lib.run_eql_slice_nil w _ _ a n c n' c' Try.underlying30
  cases a with
  | none =>
    have hn0 : n = 0 := by
      rcases Nat.eq_zero_or_pos n with h | h
      · exact h
      · obtain ⟨b, off, h, _⟩ := hS.2 0 h; cases h
    subst hn0
    have HS := hid hS
    clear hS
    go_enter Try.func16, Try.ntmps16
    go_wp2
    go_ret
    exact ⟨none, 0, rfl, HS.out, Below.refl _ _⟩
  | some ad =>
    have HC := hid hS.2
    have HL := hid hS.1
    clear hS
    obtain ⟨C, hmk, hC⟩ := make41 n hn w
    have HCS := hid hC
    clear hC
    go_enter Try.func16, Try.ntmps16
    go_wp2
    go_loopg [4] n (fun g i wr => ∃ k, g = n - k ∧ CloneB w n R A k i wr)
    case atStart =>
      refine ⟨0, rfl, Nat.zero_le _, rfl, by simp, (Below.refl _ _).alloc (Nat.le_refl _) _, ⟨fun j => C[j]?.getD undef, ?_, fun j hj => absurd hj (Nat.not_lt_zero _)⟩⟩
      rw [← HCS.out]
      exact World.rowIs_alloc w C 41 _ (fun i hi => by simp [hi])
    case round =>
      obtain ⟨k, hg, hk, rfl, hsz, hbel, ⟨f, hrow, hf⟩⟩ := hrel
      have HG := hid hg
      have HB := hid hbel
      have HR := hid hrow
      have HF := hid hf
      have HSZ := hid hsz
      clear hg hbel hrow hf hsz
      by_cases hlt : k < n
      · obtain ⟨b, off, he, hb, hcell1, hcell2, _⟩ := HC.out k hlt
        cases he
        have hcr1 : wr.cell? ⟨b, off + k * 2, none⟩ = some (.string (R k)) := by rw [HB.out.cell (p := ⟨b, off + k * 2, none⟩) hb]; exact hcell1
        have hcr2 : wr.cell? ⟨b, off + k * 2 + 1, none⟩ = some (.string (A k)) := by rw [HB.out.cell (p := ⟨b, off + k * 2 + 1, none⟩) hb]; exact hcell2
        have hc2 := HR.out.cell (i := k * 2) (by omega)
        have hc3 := HR.out.cell (i := k * 2 + 1) (by omega)
        have hfz := HR.out.frozen (k * 2)
        have hfz2 := HR.out.frozen (k * 2 + 1)
        clear hcell1 hcell2
        go_wp2
        go_roundg (n - (k + 1))
        case measure => rw [HG.out]; omega
        case rel =>
          refine ⟨k + 1, rfl, by omega, by go_num, by simpa [World.setCell] using HSZ.out, (HB.out.setCell (Nat.le_refl _) _).setCell (Nat.le_refl _) _, ⟨_, (HR.out.set (k * 2) _).set (k * 2 + 1) _, fun j hj => ?_⟩⟩
          by_cases e : j = k
          · subst e
            exact ⟨by rw [if_neg (by omega), if_pos rfl], by rw [if_pos rfl]⟩
          · obtain ⟨h1, h2⟩ := HF.out j (by omega)
            exact ⟨by rw [if_neg (by omega), if_neg (by omega)]; exact h1, by rw [if_neg (by omega), if_neg (by omega)]; exact h2⟩
      · obtain rfl : k = n := by omega
        go_wp2
        go_ret
        refine ⟨some ⟨w.heap.size, 0, none⟩, k, rfl, ⟨HL.out, fun i hi => ⟨w.heap.size, 0, rfl, by have := HSZ.out; omega, ?_, ?_, ?_⟩⟩, HB.out⟩
        · rw [Nat.zero_add, HR.out.cell (by omega), (HF.out i hi).1]
        · rw [Nat.zero_add, HR.out.cell (by omega), (HF.out i hi).2]
        · obtain ⟨_, _, _, _, _, _, h⟩ := HC.out i hi; exact h

set_option maxHeartbeats 1000000 in
theorem bytesOuter_any (a : Option Addr) (n c : Nat) (S : Nat → ByteArray) (a' : Option Addr) (n' c' : Nat) (R A : Nat → ByteArray) (x : ByteArray) (kk : Int) (w : World) (hS : IsStrs w a n S) (hB : IsBinds w a' n' R A) :
    Calls Try.prog 13 #[.slice a n c, .slice a' n' c', .string x, .int .i64 kk] w (AnyBool w) := by
  obtain ⟨hn, hc⟩ := hS
  obtain ⟨hn', hc'⟩ := hB
  unfold maxLen at hn hn'
  have HC' := hid hc'
  clear hc'
  go_enter Try.func13, Try.ntmps13
  go_wp2
  · go_ret
    exact AnyBool.mk _ _
  go_loop [9, 10] (fun z i => ∃ (k : Nat) (q : Int), k ≤ n ∧ i = .int .i64 k ∧ z = .int .i64 q) (fun _ i => n - (intOf i).toNat)
  case atStart => exact ⟨0, _, Nat.zero_le _, rfl, rfl⟩
  case round =>
    obtain ⟨k, q, hk, rfl, rfl⟩ := hrel
    by_cases hlt : k < n
    · obtain ⟨b, off, rfl, hb, hcell, hsz⟩ := hc k hlt
      unfold maxLen at hsz
      clear hc
      go_wp2
      · go_ret
        exact AnyBool.mk _ _
      · go_ret
        exact AnyBool.mk _ _
      · go_round
        case rel => exact ⟨k + 1, _, by omega, by go_num, rfl⟩
        case measure => simp [intOf]; omega
    · clear hc
      by_cases hbig : (1048576 : Int) < (n' : Int)
      · go_wp2
        go_ret
        exact AnyBool.mk _ _
      by_cases hbig2 : (1048576 : Int) < wrap64 (q + (n' : Int))
      · go_wp2
        go_ret
        exact AnyBool.mk _ _
      go_wp2
      go_loop [9, 11] (fun z i => ∃ (k : Nat) (q : Int), k ≤ n' ∧ i = .int .i64 k ∧ z = .int .i64 q) (fun _ i => n' - (intOf i).toNat)
      case atStart => exact ⟨0, _, Nat.zero_le _, rfl, rfl⟩
      case round =>
        obtain ⟨k', q', hk', rfl, rfl⟩ := hrel
        by_cases hlt' : k' < n'
        · obtain ⟨b, off, rfl, hb, hcell1, hcell2, hsz1, hsz2⟩ := HC'.out k' hlt'
          unfold maxLen at hsz1 hsz2
          go_wp2
          · go_ret
            exact AnyBool.mk _ _
          · go_ret
            exact AnyBool.mk _ _
          · go_ret
            exact AnyBool.mk _ _
          · go_ret
            exact AnyBool.mk _ _
          · go_round
            case rel => exact ⟨k' + 1, _, by omega, by go_num, rfl⟩
            case measure => simp [intOf]; omega
        · go_wp2
          all_goals
            go_ret
            exact AnyBool.mk _ _

set_option maxHeartbeats 1000000 in
theorem bytesOutside_any (a : Option Addr) (n c : Nat) (S : Nat → ByteArray) (a' : Option Addr) (n' c' : Nat) (R A : Nat → ByteArray) (x y : ByteArray) (w : World) (hS : IsStrs w a n S) (hB : IsBinds w a' n' R A) :
    Calls Try.prog 24 #[.slice a n c, .slice a' n' c', .string x, .string y] w (AnyBool w) := by
  obtain ⟨hn, hc⟩ := hS
  obtain ⟨hn', hc'⟩ := hB
  unfold maxLen at hn hn'
  have HC' := hid hc'
  clear hc'
  go_enter Try.func24, Try.ntmps24
  go_wp2
  · go_ret
    exact AnyBool.mk _ _
  go_loop [9, 10] (fun z i => ∃ (k : Nat) (q : Int), k ≤ n ∧ i = .int .i64 k ∧ z = .int .i64 q) (fun _ i => n - (intOf i).toNat)
  case atStart => exact ⟨0, _, Nat.zero_le _, rfl, rfl⟩
  case round =>
    obtain ⟨k, q, hk, rfl, rfl⟩ := hrel
    by_cases hlt : k < n
    · obtain ⟨b, off, rfl, hb, hcell, hsz⟩ := hc k hlt
      unfold maxLen at hsz
      clear hc
      go_wp2
      · go_ret
        exact AnyBool.mk _ _
      · go_ret
        exact AnyBool.mk _ _
      · go_round
        case rel => exact ⟨k + 1, _, by omega, by go_num, rfl⟩
        case measure => simp [intOf]; omega
    · clear hc
      by_cases hbig : (1048576 : Int) < (n' : Int)
      · go_wp2
        go_ret
        exact AnyBool.mk _ _
      by_cases hbig2 : (1048576 : Int) < wrap64 (q + (n' : Int))
      · go_wp2
        go_ret
        exact AnyBool.mk _ _
      go_wp2
      go_loop [9, 11] (fun z i => ∃ (k : Nat) (q : Int), k ≤ n' ∧ i = .int .i64 k ∧ z = .int .i64 q) (fun _ i => n' - (intOf i).toNat)
      case atStart => exact ⟨0, _, Nat.zero_le _, rfl, rfl⟩
      case round =>
        obtain ⟨k', q', hk', rfl, rfl⟩ := hrel
        by_cases hlt' : k' < n'
        · obtain ⟨b, off, rfl, hb, hcell1, hcell2, hsz1, hsz2⟩ := HC'.out k' hlt'
          unfold maxLen at hsz1 hsz2
          go_wp2
          · go_ret
            exact AnyBool.mk _ _
          · go_ret
            exact AnyBool.mk _ _
          · go_ret
            exact AnyBool.mk _ _
          · go_ret
            exact AnyBool.mk _ _
          · go_round
            case rel => exact ⟨k' + 1, _, by omega, by go_num, rfl⟩
            case measure => simp [intOf]; omega
        · go_wp2
          all_goals
            go_ret
            exact AnyBool.mk _ _

end Go.Proofs.Qxb6616843a
