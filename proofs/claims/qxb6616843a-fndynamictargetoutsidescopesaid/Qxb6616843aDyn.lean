/-
  The functions on the road of the two laws on dynamic targets: contracts.
-/
import Derived.Test.Qxb6616843aPath
import Derived.Test.Qxb6616843aVMap
import Derived.LaidEqlPtr
namespace Go.Proofs.Qxb6616843a
open Go.ChangeShapes Go.WideShapes Go.ChangeAt Go.RowKit
set_option linter.unusedVariables false

theorem built66 (s : ByteArray) : ∃ C, Try.prog.built 66 [(0, .string s)] = some C := by
  have h : (Try.prog.built 66 [(0, .string s)]).isSome = true := by kernel_rfl
  exact Option.isSome_iff_exists.1 h

theorem wpList_build {P : Program} (w : World) {ops : Array Oper} {rest : List Oper} {o : Oper} {a : Act} {Q : Exit → Act → World → Prop} (hg : o.guard = none) (t : TypeId) (parts : Array (Nat × Operand)) (hop : o.op = Op.build t parts) (C : Array Value) (vs : Array (Nat × Value)) (hvs : (parts.map fun (i, x) => (i, a.eval x)) = vs)
    (hrun : (Instr.build t vs).run P w = .ok (.agg C) w) (hK : wpList P ops Q rest (a.put o.dst (.agg C)) w) : wpList P ops Q (o :: rest) a w := by
  refine wpList_plain hg fun K' hK' => ?_
  unfold Oper.wp
  simp [execOp, hop, hvs, hrun, Result.andThen]
  exact hK' _ _ hK

set_option maxHeartbeats 400000 in
theorem newNode_any (s : ByteArray) (w : World) : Calls Try.prog 18 #[.string s] w fun e w' =>
    e = .returned (.pointer (some ⟨w.heap.size, 0, none⟩)) ∧ ∃ C, w' = w.alloc (.cells C 66) := by
  obtain ⟨C, hC⟩ := built66 s
  have hb : ∀ w, (Instr.build 66 #[(0, .string s)]).run Try.prog w = .ok (.agg C) w := fun w => run_build w 66 #[(0, .string s)] C hC
  go_enter Try.func18, Try.ntmps18
  go_wp2_with (refine wpList_build _ rfl 66 _ rfl C #[(0, .string s)] (by simp [Act.eval]) (hb _) ?_)
  go_ret
  exact ⟨rfl, _, rfl⟩

set_option maxHeartbeats 400000 in
theorem newRef_any (p : Option Addr) (s : ByteArray) (w : World) : Calls Try.prog 21 #[.pointer p, .string s] w fun e w' =>
    e = .returned (.pointer (some ⟨w.heap.size, 0, none⟩)) ∧ w' = w.alloc (.cells #[.pointer p, .string s] 69) := by
  go_enter Try.func21, Try.ntmps21
  go_wp2
  go_ret
  exact ⟨rfl, rfl⟩

set_option maxHeartbeats 400000 in
theorem newSchema_any (w : World) : Calls Try.prog 17 #[] w fun e w' =>
    e = .returned (.pointer (some ⟨w.heap.size + 1, 0, none⟩)) ∧ w' = (w.alloc (.map #[] 0)).alloc (.cells #[.pointer none, .map (some w.heap.size), .bool false] 53) := by
  have hmm := @run_makeMap Try.prog
  go_enter Try.func17, Try.ntmps17
  go_wp2
  go_ret
  exact ⟨rfl, rfl⟩

set_option maxHeartbeats 400000 in
theorem newState_any (p a : Option Addr) (n c : Nat) (w : World) : Calls Try.prog 23 #[.pointer p, .slice a n c] w fun e w' =>
    e = .returned (.pointer (some ⟨w.heap.size, 0, none⟩)) ∧ ∃ v1 v2 v3 v5 v6, w' = w.alloc (.cells #[.pointer p, v1, v2, v3, .slice a n c, v5, v6] 77) := by
  go_enter Try.func23, Try.ntmps23
  go_wp2
  go_ret
  exact ⟨rfl, _, _, _, _, _, rfl⟩

theorem law9 : Maps.Keyed Try.prog 9 := Maps.string_keyed Try.underlying9
theorem key9 {s : ByteArray} (hs : s.size ≤ maxLen) : keyOf Try.prog 9 (.string s) = some (sk s) := WideMaps.keyOf_string_mk Try.underlying9 hs
theorem zero63 (w : World) : (zeroValue 63).run Try.prog w = .ok (.map none) w := by kernel_rfl
theorem zero37 (w : World) : (zeroValue 37).run Try.prog w = .ok (.pointer none) w := by kernel_rfl

set_option maxHeartbeats 400000 in
theorem hasRes_any (sb M n : Nat) (F : Lit → Option Value) (s : ByteArray) (w : World) (hs : s.size ≤ maxLen) (hc : w.cell? ⟨sb, 1, none⟩ = some (.map (some M))) (hM : VMap Try.prog 9 w M n F) :
    Calls Try.prog 26 #[.pointer (some ⟨sb, 0, none⟩), .string s] w fun e w' => e = .returned (.bool (F (sk s)).isSome) ∧ w' = w := by
  have hl := hM.look_ok law9 Try.underlying51 (zero63 w) (key9 hs)
  clear hM
  go_enter Try.func26, Try.ntmps26
  go_wp2
  go_ret
  exact ⟨rfl, rfl⟩

set_option maxHeartbeats 400000 in
theorem addRes_any (sb M n : Nat) (F : Lit → Option Value) (s : ByteArray) (w : World) (hs : s.size ≤ maxLen) (hn : n < maxLen) (hsb : sb < w.heap.size) (hc : w.cell? ⟨sb, 1, none⟩ = some (.map (some M))) (hM : VMap Try.prog 9 w M n F) :
    Calls Try.prog 27 #[.pointer (some ⟨sb, 0, none⟩), .string s] w fun e w' => e = .returned (.tuple #[]) ∧ VMap Try.prog 9 w' M (grow (F (sk s)) n) (upd F (sk s) (.map (some w.heap.size))) ∧ (w.alloc (.map #[] 0)).mapTurned w' M := by
  have hmm := @run_makeMap Try.prog
  have HM := hid (hM.alloc (.map #[] 0))
  clear hM
  go_enter Try.func27, Try.ntmps27
  go_wp2_with (at_mapUpdate; refine wpList_vstore (val := .map (some w.heap.size)) _ rfl _ _ _ 51 rfl law9 Try.underlying51 rfl HM.out hn rfl rfl (key9 hs) ?_; intro w' hv ht; have HV := hid hv; have HT := hid ht; clear hv ht)
  go_end0
  exact ⟨rfl, HV.out, HT.out⟩

set_option maxHeartbeats 400000 in
theorem setDyn_any (sb M n : Nat) (F : Lit → Option Value) (b m : Nat) (G : Lit → Option Value) (s a : ByteArray) (x : Option Addr) (w : World) (hs : s.size ≤ maxLen) (ha : a.size ≤ maxLen) (hm : m < maxLen)
    (hc : w.cell? ⟨sb, 1, none⟩ = some (.map (some M))) (hM : VMap Try.prog 9 w M n F) (hF : F (sk s) = some (.map (some b))) (hG : VMap Try.prog 9 w b m G) :
    Calls Try.prog 20 #[.pointer (some ⟨sb, 0, none⟩), .string s, .string a, .pointer x] w fun e w' => e = .returned (.tuple #[]) ∧ VMap Try.prog 9 w' b (grow (G (sk a)) m) (upd G (sk a) (.pointer x)) ∧ w.mapTurned w' b := by
  have hl := hM.look law9 Try.underlying51 (zero63 w) (key9 hs)
  rw [hF, Option.getD_some] at hl
  have HG := hid hG
  clear hM hG hF
  go_enter Try.func20, Try.ntmps20
  go_wp2_with (at_mapUpdate; refine wpList_vstore (val := .pointer x) _ rfl _ _ _ 63 rfl law9 Try.underlying63 rfl HG.out hm rfl rfl (key9 ha) ?_; intro w' hv ht; have HV := hid hv; have HT := hid ht; clear hv ht)
  go_end0
  exact ⟨rfl, HV.out, HT.out⟩

end Go.Proofs.Qxb6616843a
