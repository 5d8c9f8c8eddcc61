/-
  The law on two members of one path: the walk.
-/
import Derived.Test.Qxb6616843aChain
import Derived.LaidEqlPtr
namespace Go.Proofs.Qxb6616843a
open Go.ChangeShapes Go.WideShapes Go.ChangeAt Go.RowKit
set_option linter.unusedVariables false

theorem info50 : ∃ j, Try.prog.info? 50 = some j ∧ j.size ≠ 0 := by
  have h : (Try.prog.info? 50).map (fun i => i.size) = some 4 := by kernel_rfl
  cases hj : Try.prog.info? 50 with
  | none => rw [hj] at h; cases h
  | some j => rw [hj] at h; simp at h; exact ⟨j, rfl, by omega⟩

theorem ptr_eql_same (p : Option Addr) (w : World) : (binOp .eql 25 (.pointer p) (.pointer p)).run Try.prog w = .ok (.bool true) w := by
  obtain ⟨j, hj, -⟩ := info50
  cases p with
  | none => exact run_eql_pointer_nil w 25 none (by kernel_rfl)
  | some a => exact run_eql_ptr_same w a Try.underlying25 hj

theorem ptr_neq_same (p : Option Addr) (w : World) : (binOp .neq 25 (.pointer p) (.pointer p)).run Try.prog w = .ok (.bool false) w := by
  obtain ⟨j, hj, -⟩ := info50
  cases p with
  | none => exact run_neq_pointer_nil w 25 none (by kernel_rfl)
  | some a =>
    have h : ∀ d : Nat, (Op.equalIn (d + 1) 25 (.pointer (some a)) (.pointer (some a))).run Try.prog w = .ok true w := fun d => by
      simp [Op.equalIn, run_underlying Try.underlying25, sizeOf, typeInfo, hj, run_sameAddr_same]
    simp only [binOp]
    simp [Op.equal, Op.maxDepth, h 9999]

theorem ptr_eql_two (w : World) (C D : Array Value) : (binOp .eql 25 (.pointer (some ⟨w.heap.size, 0, none⟩)) (.pointer (some ⟨w.heap.size + 1, 0, none⟩))).run Try.prog ((w.alloc (.cells C 50)).alloc (.cells D 50)) = .ok (.bool false) ((w.alloc (.cells C 50)).alloc (.cells D 50)) := by
  obtain ⟨j, hj, hs⟩ := info50
  refine run_eql_ptr_other (ca := C) (cb := D) (ta := 50) (tb := 50) _ Try.underlying25 hj hs (by simp) ?_ ?_
  · show ((w.heap.push _).push _)[w.heap.size]? = _
    simp [Array.getElem?_push]
  · show ((w.heap.push _).push _)[w.heap.size + 1]? = _
    rw [Array.getElem?_push, if_pos (by simp)]

set_option maxHeartbeats 400000 in
theorem bytesSib_any (a : Option Addr) (n c : Nat) (S : Nat → ByteArray) (x y : ByteArray) (w : World) (hS : IsStrs w a n S) :
    Calls Try.prog 12 #[.slice a n c, .string x, .string y] w (AnyBool w) := by
  obtain ⟨hn, hc⟩ := hS
  unfold maxLen at hn
  go_enter Try.func12, Try.ntmps12
  go_wp2
  · go_ret
    exact AnyBool.mk _ _
  go_loop [7, 8] (fun z i => ∃ (k : Nat) (q : Int), k ≤ n ∧ i = .int .i64 k ∧ z = .int .i64 q) (fun _ i => n - (intOf i).toNat)
  case atStart => exact ⟨0, _, Nat.zero_le _, rfl, rfl⟩
  case round =>
    obtain ⟨k, q, hk, rfl, rfl⟩ := hrel
    by_cases hlt : k < n
    · obtain ⟨b, off, rfl, hb, hcell, hsz⟩ := hc k hlt
      unfold maxLen at hsz
      clear hc
      go_wp2
      · go_ret
        exact AnyBool.mk _ _
      · go_ret
        exact AnyBool.mk _ _
      · go_round
        case rel => exact ⟨k + 1, _, by omega, by go_num, rfl⟩
        case measure => simp [intOf]; omega
    · go_wp2
      all_goals
        go_ret
        exact AnyBool.mk _ _

set_option maxRecDepth 100000 in
set_option maxHeartbeats 2000000 in
theorem sib_walk (a : Option Addr) (n c : Nat) (S : Nat → ByteArray) (x y : ByteArray) (w : World) (hS : IsStrs w a n S) :
    Calls Try.prog 4 #[.slice a n c, .string x, .string y] w fun e w' => e = .returned (.bool true) ∧ Below w.heap.size w w' := by
  have hS' := hS
  obtain ⟨hn, hc⟩ := hS'
  unfold maxLen at hn
  have HC : Hid (∀ i, i < n → ∃ b off, a = some ⟨b, off, none⟩ ∧ b < w.heap.size ∧ w.cell? ⟨b, off + i, none⟩ = some (.string (S i)) ∧ (S i).size ≤ maxLen) := hc
  have HS : Hid (IsStrs w a n S) := hS
  clear hc hS
  go_enter Try.func4, Try.ntmps4
  go_wp2_with fail
  refine (bytesSib_any a n c S x y w HS.out).mono ?_
  rintro e w' ⟨r, rfl, rfl⟩
  cases r
  · go_wp2_with fail
    go_ret
    exact ⟨rfl, Below.refl _ _⟩
  by_cases h1 : (65536 : Int) < (n : Int)
  · go_wp2_with fail
    go_ret
    exact ⟨rfl, Below.refl _ _⟩
  by_cases h2 : (1048576 : Int) < (x.size : Int)
  · go_wp2_with fail
    go_ret
    exact ⟨rfl, Below.refl _ _⟩
  by_cases h3 : (1048576 : Int) < (y.size : Int)
  · go_wp2_with fail
    go_ret
    exact ⟨rfl, Below.refl _ _⟩
  go_wp2_with fail
  refine (pathOver_any a n c S _ _ w HS.out).mono ?_
  rintro e w' ⟨r, rfl, rfl⟩
  cases r
  rotate_left
  · go_wp2_with fail
    go_ret
    exact ⟨rfl, Below.refl _ _⟩
  go_wp2_with (go_at_call 9; refine (nilPath_any _).mono ?_; rintro e w' ⟨rfl, rfl⟩)
  go_loopg [7, 8] n (fun g p i wr => ∃ k, g = n - k ∧ Build w n S k p i wr)
  case atStart => exact ⟨0, rfl, Nat.zero_le _, rfl, rfl, rfl, Below.refl _ _, fun j hj => absurd hj (Nat.not_lt_zero _)⟩
  case round =>
    obtain ⟨k, hg, hk, rfl, rfl, hsz, hbel, hch⟩ := hrel
    have HG : Hid (gk = n - k) := hg
    clear hg
    by_cases hlt : k < n
    · obtain ⟨b, off, rfl, hb, hcell, _⟩ := HC.out k hlt
      have hcr : wr.cell? ⟨b, off + k, none⟩ = some (.string (S k)) := by rw [hbel.cell (p := ⟨b, off + k, none⟩) hb]; exact hcell
      have HB := hid hbel
      have HCH := hid hch
      have HSZ := hid hsz
      clear hbel hcell hch hsz
      have hd : ∀ j, k = j + 1 → wr.cell? ⟨w.heap.size + j, 3, none⟩ = some (.int .i64 ((j : Int) + 1)) := fun j hj => (HCH.out j (by omega)).2.2.2
      have HD := hid hd
      clear hd
      go_wp2_with (go_at_call 10; refine (pathMember_up _ _ _ _ (by omega) HD.out).mono ?_; rintro e w' ⟨rfl, rfl⟩)
      go_roundg (n - (k + 1))
      case measure => rw [HG.out]; omega
      case rel =>
        have hsz := HSZ.out
        refine ⟨k + 1, rfl, by omega, by go_num, ?_, ?_, HB.out.alloc (by omega) _, HCH.out.step hsz⟩
        · rw [hsz]; rfl
        · simp; omega
    · obtain rfl : k = n := by omega
      have HB := hid hbel
      have HCH := hid hch
      have HSZ := hid hsz
      clear hbel hch hsz
      have hd : ∀ j, k = j + 1 → wr.cell? ⟨w.heap.size + j, 3, none⟩ = some (.int .i64 ((j : Int) + 1)) := fun j hj => (HCH.out j (by omega)).2.2.2
      have HD := hid hd
      clear hd
      go_wp2_with fail
      refine (pathMember_up _ _ _ _ (by omega) HD.out).mono ?_
      rintro e w' ⟨rfl, rfl⟩
      go_wp2_with fail
      refine (pathMember_up _ _ _ _ (by omega) (fun j hj => ?_)).mono ?_
      · rw [World.cell?_alloc_past _ _ _ (by have := HSZ.out; omega)]
        exact HD.out j hj
      rintro e w' ⟨rfl, rfl⟩
      have e1 := ptr_eql_two wr
      have e2 := ptr_neq_same (up w.heap.size k)
      have HCH2 := hid ((HCH.out.alloc (by have := HSZ.out; omega) (.cells #[.pointer (up w.heap.size k), .string x, .int .i64 (-1), .int .i64 ((k : Int) + 1)] 50)).alloc (by have := HSZ.out; simp; omega) (.cells #[.pointer (up w.heap.size k), .string y, .int .i64 (-1), .int .i64 ((k : Int) + 1)] 50))
      have HB2 := hid ((HB.out.alloc (by have := HSZ.out; omega) (.cells #[.pointer (up w.heap.size k), .string x, .int .i64 (-1), .int .i64 ((k : Int) + 1)] 50)).alloc (by have := HSZ.out; simp; omega) (.cells #[.pointer (up w.heap.size k), .string y, .int .i64 (-1), .int .i64 ((k : Int) + 1)] 50))
      go_wp2_with fail
      refine (fields_any _ (.pointer (up w.heap.size k)) (.string x) (.int .i64 (-1)) (.int .i64 ((k : Int) + 1)) _ ?_ ?_ ?_ ?_).mono ?_
      iterate 4 (· rw [World.cell?_alloc_past _ _ _ (by simp)]; simp)
      rintro e w' ⟨rfl, m1, rfl⟩
      go_wp2_with fail
      refine (fields_any _ (.pointer (up w.heap.size k)) (.string y) (.int .i64 (-1)) (.int .i64 ((k : Int) + 1)) _ ?_ ?_ ?_ ?_).mono ?_
      iterate 4 (· simp)
      rintro e w' ⟨rfl, m2, rfl⟩
      go_wp2_with fail
      go_loopg [19, 20] k (fun g q i wr => Climb w k S g q i wr)
      case atStart => exact ⟨Nat.le_refl _, rfl, rfl, below_drewN HB2.out _, fun i hi => HCH2.out i hi⟩
      case round =>
        clear e1 e2
        obtain ⟨hj, rfl, rfl, hbel, hch⟩ := hrel
        have HB := hid hbel
        have HCH := hid hch
        clear hbel hch
        rcases Nat.eq_zero_or_pos gk with h0 | h0
        · subst h0
          rw [up_zero]
          go_wp2_with fail
          go_ret
          exact ⟨rfl, HB.out⟩
        · obtain ⟨j, rfl⟩ : ∃ k', gk = k' + 1 := ⟨gk - 1, by omega⟩
          obtain ⟨c0, c1, c2, c3⟩ := HCH.out j (by omega)
          obtain ⟨b, off, rfl, hb, hcell, _⟩ := HC.out j (by omega)
          have hcr : wr.cell? ⟨b, off + j, none⟩ = some (.string (S j)) := by rw [HB.out.cell (p := ⟨b, off + j, none⟩) hb]; exact hcell
          clear hcell
          rw [up_succ, show (((j + 1 : Nat) : Int) - 1) = (j : Int) by omega]
          go_wp2_with (go_at_call 11; refine (fields_any _ _ _ _ _ _ c0 c1 c2 c3).mono ?_; rintro e w' ⟨rfl, m, rfl⟩)
          go_roundg j
          case measure => omega
          case rel => exact ⟨by omega, rfl, rfl, below_drewN HB.out _, fun i hi => HCH.out i hi⟩

end Go.Proofs.Qxb6616843a
