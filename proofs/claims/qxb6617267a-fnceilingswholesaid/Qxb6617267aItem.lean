/-
  FnIsItemCut: the callees' contracts.
-/
import Derived.Test.Qxb6617267aRows
import Derived.WalkKit
import Derived.ProofKit
import Derived.WalkSpells
import Derived.WalkLawsBesides
import Derived.Deep.LoopGhost
import Derived.Below
import Derived.Outline
import Derived.Lib.ConvBytes
namespace Go.Proofs.Qxb6617267a
open Go.ChangeShapes Go.WideShapes Go.ChangeAt Go.RowKit
set_option linter.unusedVariables false
theorem hid {p : Prop} (h : p) : Hid p := h

/-- The call returns a bool, whichever, and turns nothing. -/
def AnyBool (w : World) (e : Ending) (w' : World) : Prop := ∃ r : Bool, e = .returned (.bool r) ∧ w = w'
theorem AnyBool.mk (w : World) (r : Bool) : AnyBool w (.returned (.bool r)) w := ⟨r, rfl, rfl⟩

def itemN (n : Int) : Bool := decide (97 ≤ n ∧ n ≤ 122) || decide (65 ≤ n ∧ n ≤ 90) || decide (48 ≤ n ∧ n ≤ 57) || decide (n = 95)
theorem itemN_true {n : Int} (h : (97 ≤ n ∧ n ≤ 122) ∨ (65 ≤ n ∧ n ≤ 90) ∨ (48 ≤ n ∧ n ≤ 57) ∨ n = 95) : itemN n = true := by
  unfold itemN; simp; omega
theorem itemN_false {n : Int} (h : ¬ ((97 ≤ n ∧ n ≤ 122) ∨ (65 ≤ n ∧ n ≤ 90) ∨ (48 ≤ n ∧ n ≤ 57) ∨ n = 95)) : itemN n = false := by
  unfold itemN; simp; omega

def itemB (c : UInt8) : Bool := itemN (c.toNat : Int)
/-- Every byte of s is an item's byte; .. and s is not empty. -/
def allB (s : ByteArray) : Bool := s.data.toList.all itemB
def itemS (s : ByteArray) : Bool := !s.toList.isEmpty && allB s

set_option maxHeartbeats 400000 in
theorem bytesCut_any (a b : ByteArray) (w : World) : Calls Try.prog 16 #[.string a, .string b] w (AnyBool w) := by
  go_enter Try.func16, Try.ntmps16
  go_wp2
  all_goals
    go_ret
    exact AnyBool.mk _ _

theorem or32 : ∀ c : Fin 256, decide (97 ≤ bits .or .u8 (c.val : Int) 32 ∧ bits .or .u8 (c.val : Int) 32 ≤ 122) = decide ((97 ≤ (c.val : Int) ∧ (c.val : Int) ≤ 122) ∨ (65 ≤ (c.val : Int) ∧ (c.val : Int) ≤ 90)) := by decide +kernel
theorem or32' (n : Nat) (hn : n < 256) : (97 ≤ bits .or .u8 (n : Int) 32 ∧ bits .or .u8 (n : Int) 32 ≤ 122) ↔ ((97 ≤ (n : Int) ∧ (n : Int) ≤ 122) ∨ (65 ≤ (n : Int) ∧ (n : Int) ≤ 90)) := by
  have := or32 ⟨n, hn⟩
  exact decide_eq_decide.1 this
theorem ret_bool {a b : Bool} (h : a = b) : Ending.returned (.bool a) = .returned (.bool b) := by rw [h]

set_option maxHeartbeats 400000 in
theorem itemByte_any (n : Nat) (hn : n < 256) (w : World) : Calls Try.prog 30 #[.int .u8 (n : Int)] w fun e w' => e = .returned (.bool (itemN n)) ∧ w = w' := by
  have HL := hid (or32' n hn)
  by_cases h95 : (n : Int) = 95
  · have hb : ((n : Int) == 95) = true := by simp [h95]
    have H95 := hid h95
    clear h95
    go_enter Try.func30, Try.ntmps30
    go_wp2
    all_goals
      go_ret
      have h1 := H95.out
      refine ⟨ret_bool ?_, rfl⟩
      rw [itemN_true (by omega)]
      try simp
  · have hb : ((n : Int) == 95) = false := by simp [h95]
    have H95 := hid h95
    clear h95
    go_enter Try.func30, Try.ntmps30
    go_wp2
    all_goals
      go_ret
      have h1 := H95.out
      have h2 := HL.out
      refine ⟨ret_bool ?_, rfl⟩
      first | (rw [itemN_true (by omega)]; done) | (rw [itemN_true (by omega)]; simp; done) | (rw [itemN_false (by omega)]; done) | (rw [itemN_false (by omega)]; simp; omega)

/-- The first k bytes are items' bytes. -/
def upTo (s : ByteArray) (k : Nat) : Prop := ∀ j (h : j < s.size), j < k → itemB (s[j]'h) = true
theorem upTo_all {s : ByteArray} (h : upTo s s.size) : allB s = true := by
  unfold allB
  rw [List.all_eq_true]
  intro x hx
  obtain ⟨j, hj, rfl⟩ := List.getElem_of_mem hx
  have hj' : j < s.size := by simpa using hj
  exact h j hj' hj'
theorem not_all {s : ByteArray} {k : Nat} (hk : k < s.size) (h : itemB (s[k]'hk) = false) : allB s = false := by
  unfold allB
  rw [List.all_eq_false]
  have hk' : k < s.data.toList.length := by simpa using hk
  refine ⟨s.data.toList[k], List.getElem_mem _, ?_⟩
  have e : s.data.toList[k] = s[k]'hk := rfl
  rw [e, h]; simp
theorem upTo_step {s : ByteArray} {k : Nat} (hk : k < s.size) (h : upTo s k) (hi : itemB (s[k]'hk) = true) : upTo s (k + 1) := by
  intro j hj hjk
  by_cases e : j = k
  · subst e; exact hi
  · exact h j hj (by omega)

set_option maxHeartbeats 400000 in
theorem allItem_any (s : ByteArray) (hs : s.size ≤ maxLen) (w : World) : Calls Try.prog 18 #[.string s] w fun e w' => e = .returned (.bool (allB s)) ∧ w = w' := by
  unfold maxLen at hs
  go_enter Try.func18, Try.ntmps18
  go_wp2
  go_loop [3] (fun i => ∃ k : Nat, k ≤ s.size ∧ i = .int .i64 k ∧ upTo s k) (fun i => s.size - (intOf i).toNat)
  case atStart => exact ⟨0, Nat.zero_le _, rfl, fun j _ hj => absurd hj (Nat.not_lt_zero _)⟩
  case round =>
    obtain ⟨k, hk, rfl, hal⟩ := hrel
    have HAL := hid hal
    clear hal
    by_cases hlt : k < s.size
    · have hb := UInt8.toNat_lt s[k]
      cases hi : itemB s[k]
      · have HI := hid hi
        have hi' : itemN (s[k].toNat : Int) = false := hi
        clear hi
        go_wp2_with (go_at_call 30; refine (itemByte_any _ hb _).mono ?_; rintro e w' ⟨rfl, rfl⟩)
        go_ret
        exact ⟨ret_bool (not_all hlt HI.out).symm, rfl⟩
      · have HI := hid hi
        have hi' : itemN (s[k].toNat : Int) = true := hi
        clear hi
        go_wp2_with (go_at_call 30; refine (itemByte_any _ hb _).mono ?_; rintro e w' ⟨rfl, rfl⟩)
        go_round
        case rel => exact ⟨k + 1, by omega, by go_num, upTo_step hlt HAL.out HI.out⟩
        case measure => simp [intOf]; omega
    · obtain rfl : k = s.size := by omega
      go_wp2_with fail
      go_ret
      exact ⟨ret_bool (upTo_all HAL.out).symm, rfl⟩

set_option maxHeartbeats 1000000 in
theorem isItem_any (s : ByteArray) (hs : s.size ≤ maxLen) (w : World) : Calls Try.prog 29 #[.string s] w fun e w' => e = .returned (.bool (itemS s)) ∧ Below w.heap.size w w' := by
  have hconv := Lib.run_convert_string_bytes w 9 73 5 s Try.underlying9 Try.underlying73 Try.underlying5
  have hcell := Lib.bytesWorld_cell w 5 s
  have HB : Hid (Below w.heap.size w (Lib.bytesWorld w 5 s)) := ⟨rfl, rfl, rfl, by rw [Lib.bytesWorld_size]; omega, fun j hj => Lib.bytesWorld_at_old w 5 s j hj⟩
  obtain ⟨W, hW⟩ : ∃ W, W = Lib.bytesWorld w 5 s := ⟨_, rfl⟩
  obtain ⟨cp, hcp⟩ : ∃ cp, cp = grownCap w s.size 0 5 := ⟨_, rfl⟩
  rw [← hW] at hconv hcell HB
  rw [← hcp] at hconv
  clear hW hcp
  have HC := hid hcell
  clear hcell
  unfold maxLen at hs
  go_enter Try.func29, Try.ntmps29
  go_wp2_with fail
  go_loop [8] (fun i => ∃ k : Nat, k ≤ s.size ∧ i = .int .i64 k ∧ upTo s k) (fun i => s.size - (intOf i).toNat)
  case atStart => exact ⟨0, Nat.zero_le _, rfl, fun j _ hj => absurd hj (Nat.not_lt_zero _)⟩
  case round =>
    obtain ⟨k, hk, rfl, hal⟩ := hrel
    have HAL := hid hal
    clear hal hconv
    by_cases hlt : k < s.size
    · have hb := UInt8.toNat_lt s[k]
      have hc := HC.out k hlt
      have hc' : W.cell? ⟨w.heap.size, k, none⟩ = some (.int .u8 (s[k].toNat : Int)) := by
        rw [hc]
        have e : s.data.toList.getD k 0 = s[k] := by simp [List.getD_eq_getElem?_getD, hlt]; rfl
        rw [e]
      clear hc
      by_cases h95 : (s[k].toNat : Int) = 95
      · have hb95 : ((s[k].toNat : Int) == 95) = true := by simp [h95]
        have H95 := hid h95
        clear h95
        go_wp2_with fail
        all_goals
          go_round
          case rel => exact ⟨k + 1, by omega, by go_num, upTo_step hlt HAL.out (itemN_true (by have := H95.out; omega))⟩
          case measure => simp [intOf]; omega
      · have hb95 : ((s[k].toNat : Int) == 95) = false := by simp [h95]
        have H95 := hid h95
        clear h95
        go_wp2_with fail
        all_goals
          first
          | (go_ret
             exact ⟨ret_bool (by unfold itemS; rw [not_all hlt (itemN_false (by have := H95.out; omega))]; simp), HB.out⟩)
          | (exfalso
             simp only [Bool.not_eq_false', decide_eq_true_eq] at *
             omega)
          | (go_round
             case rel => exact ⟨k + 1, by omega, by go_num, upTo_step hlt HAL.out (itemN_true (by have := H95.out; omega))⟩
             case measure => simp [intOf]; omega)
    · obtain rfl : k = s.size := by omega
      go_wp2_with fail
      go_ret
      refine ⟨ret_bool ?_, HB.out⟩
      unfold itemS
      rw [upTo_all HAL.out]
      simp

set_option maxHeartbeats 400000 in
theorem zzIsItem_any (s : ByteArray) (hs : s.size ≤ maxLen) (w : World) : Calls Try.prog 17 #[.string s] w fun e w' => e = .returned (.bool (itemS s)) ∧ Below w.heap.size w w' := by
  have C := hid (isItem_any s hs w)
  clear hs
  go_enter Try.func17, Try.ntmps17
  go_wp2_with fail
  refine C.out.mono ?_
  rintro e w' ⟨rfl, hb⟩
  have HB := hid hb
  clear hb
  go_wp2_with fail
  go_ret
  exact ⟨rfl, HB.out⟩

end Go.Proofs.Qxb6617267a
