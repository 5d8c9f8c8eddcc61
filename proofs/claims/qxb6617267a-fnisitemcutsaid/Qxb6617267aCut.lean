/-
  FnIsItemCut: the walk.
-/
import Derived.Test.Qxb6617267aItem
namespace Go.Proofs.Qxb6617267a
open Go.ChangeShapes Go.WideShapes Go.ChangeAt Go.RowKit
set_option linter.unusedVariables false

theorem allB_append (a b : ByteArray) : allB (a ++ b) = (allB a && allB b) := by
  unfold allB
  rw [show (a ++ b).data = a.data ++ b.data from ByteArray.data_append ..]
  simp
theorem empty_append (a b : ByteArray) : (a ++ b).toList.isEmpty = (a.toList.isEmpty && b.toList.isEmpty) := by
  rw [ByteArray.toList_eq, ByteArray.toList_eq, ByteArray.toList_eq, show (a ++ b).data = a.data ++ b.data from ByteArray.data_append .., Array.toList_append]
  cases a.data.toList <;> cases b.data.toList <;> rfl
theorem size_of_empty {a : ByteArray} (h : a.toList.isEmpty = true) : a.size = 0 := by
  rw [ByteArray.toList_eq] at h
  simp at h
  show a.data.size = 0
  rw [h]; rfl
theorem size_of_not {a : ByteArray} (h : a.toList.isEmpty = false) : 0 < a.size := by
  rw [ByteArray.toList_eq] at h
  simp at h
  show 0 < a.data.size
  rcases Nat.eq_zero_or_pos a.data.size with e | e
  · exact absurd (Array.eq_empty_of_size_eq_zero e) h
  · exact e
theorem itemS_append (a b : ByteArray) : itemS (a ++ b) = (!(a.toList.isEmpty && b.toList.isEmpty) && (allB a && allB b)) := by
  unfold itemS; rw [empty_append, allB_append]
theorem allB_empty {a : ByteArray} (h : a.toList.isEmpty = true) : allB a = true := by
  unfold allB
  rw [ByteArray.toList_eq] at h
  simp at h
  rw [h]; rfl

theorem noE {a : ByteArray} (h : a.toList.isEmpty = true) (hA : allB a = false) : False := by rw [allB_empty h] at hA; cases hA
theorem posA {a : ByteArray} (b : ByteArray) (h : a.toList.isEmpty = false) : (0 : Int) < (a.size : Int) + (b.size : Int) := by have := size_of_not h; omega
theorem posB (a : ByteArray) {b : ByteArray} (h : b.toList.isEmpty = false) : (0 : Int) < (a.size : Int) + (b.size : Int) := by have := size_of_not h; omega
theorem posN {a b : ByteArray} (h : a.toList.isEmpty = true) (h' : b.toList.isEmpty = true) : decide ((0 : Int) < (a.size : Int) + (b.size : Int)) = false := by have := size_of_empty h; have := size_of_empty h'; exact decide_eq_false (by omega)

set_option maxHeartbeats 4000000 in
theorem cut_walk (a b : ByteArray) (w : World) (ha : a.size ≤ maxLen) (hb : b.size ≤ maxLen) :
    Calls Try.prog 4 #[.string a, .string b] w fun e w' => e = .returned (.bool true) ∧ Below w.heap.size w w' := by
  have HA := hid ha
  have HB := hid hb
  clear ha hb
  go_enter Try.func4, Try.ntmps4
  go_wp2_with fail
  refine (bytesCut_any a b w).mono ?_
  rintro e w' ⟨r, rfl, rfl⟩
  cases r
  · go_wp2_with fail
    go_ret
    exact ⟨rfl, Below.refl _ _⟩
  by_cases h1 : (1048576 : Int) < (a.size : Int)
  · go_wp2_with fail
    go_ret
    exact ⟨rfl, Below.refl _ _⟩
  by_cases h2 : (1048576 : Int) < (b.size : Int)
  · go_wp2_with fail
    go_ret
    exact ⟨rfl, Below.refl _ _⟩
  by_cases h3 : (1048576 : Int) < (a.size : Int) + (b.size : Int)
  · go_wp2_with fail
    go_ret
    exact ⟨rfl, Below.refl _ _⟩
  have hab : a.size + b.size ≤ 9223372036854775807 := by omega
  go_wp2_with fail
  refine (zzIsItem_any (a ++ b) (by rw [ByteArray.size_append]; unfold maxLen; omega) w).mono ?_
  rintro e w1 ⟨rfl, hb1⟩
  have HB1 := hid hb1
  clear hb1
  go_wp2_with fail
  refine (zzIsItem_any a HA.out w1).mono ?_
  rintro e w2 ⟨rfl, hb2⟩
  have HB2 := hid (HB1.out.trans (hb2.mono HB1.out.size))
  clear hb2
  go_wp2_with fail
  refine (zzIsItem_any b HB.out w2).mono ?_
  rintro e w3 ⟨rfl, hb3⟩
  have HB3 := hid (HB2.out.trans (hb3.mono HB2.out.size))
  clear hb3
  have ej := itemS_append a b
  have ea : itemS a = (!a.toList.isEmpty && allB a) := rfl
  have eb : itemS b = (!b.toList.isEmpty && allB b) := rfl
  cases ha : a.toList.isEmpty <;> cases hb : b.toList.isEmpty <;> cases hA : allB a <;> cases hB : allB b
  all_goals
    rw [ha, hb, hA, hB] at ej
    rw [ha, hA] at ea
    rw [hb, hB] at eb
    simp only [Bool.not_false, Bool.not_true, Bool.and_self, Bool.and_false, Bool.and_true] at ej ea eb
    rw [ej, ea, eb]
    clear ej ea eb
  all_goals first
    | exact (noE ha hA).elim
    | exact (noE hb hB).elim
    | skip
  all_goals first
    | have hpos := posA b ha
    | have hpos := posB a hb
    | have hpos := posN ha hb
  all_goals
    go_wp2_with (go_at_call 18; refine (allItem_any a HA.out _).mono ?_; rintro e w' ⟨rfl, rfl⟩)
  all_goals
    go_ret
    exact ⟨rfl, HB3.out⟩

end Go.Proofs.Qxb6617267a
