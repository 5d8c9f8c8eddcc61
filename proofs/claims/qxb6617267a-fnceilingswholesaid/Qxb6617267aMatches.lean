/-
  'matches': the walk.
-/
import Derived.Test.Qxb6617267aMatch
namespace Go.Proofs.Qxb6617267a
open Go.ChangeShapes Go.WideShapes Go.ChangeAt Go.RowKit
set_option linter.unusedVariables false
set_option linter.unusedSimpArgs false

theorem Mod.old {w w' : World} {B n : Nat} {v : Value} {l : List ByteArray} {S : Nat → ByteArray → Option Value} (h : Mod w B n v l S) (hb : ∀ i, i < w.heap.size → w'.heap[i]? = w.heap[i]?) : Mod w' B n v l S := by
  refine ⟨(hb _ h.lt).trans h.q, h.row.congr (fun g hg => ?_), h.len, fun i hi => ?_⟩
  · obtain ⟨_, cur, hc⟩ := h.row.block hg
    exact hb g (lt_of_heap hc)
  · obtain ⟨c, F, hc, hv, hF⟩ := h.maps i hi
    exact ⟨c, F, hc, hv.congr (hb _ hv.lt), hF⟩

theorem Model.below {w w' : World} {B n : Nat} {A R : ByteArray → Option Int} (h : Model w B n A R) (hb : Below w.heap.size w w') : Model w' B n A R := by
  obtain ⟨v, l, hM, h2⟩ := h
  exact ⟨v, l, hM.old (fun i hi => hb.block i hi), h2⟩

theorem CMap.below {w w' : World} {M cnt : Nat} {A R : ByteArray → Option Int} (h : CMap w M cnt A R) (hb : Below w.heap.size w w') : CMap w' M cnt A R := h.congr (hb.block M h.lt)

set_option maxRecDepth 100000 in
set_option maxHeartbeats 4000000 in
theorem matches_any (w : World) (B n Mc c : Nat) (A R : ByteArray → Option Int) (hM : Model w B n A R) (hC : CMap w Mc c A R) (hn : n ≤ 1000000000000) (hs : ∀ it, (A it).isSome = true → it.size ≤ maxLen) :
    Calls Try.prog 26 #[.pointer (some ⟨B + 4, 0, none⟩), .map (some Mc)] w fun e w' => e = .returned (.bool true) ∧ Below w.heap.size w w' := by
  obtain ⟨v, l, hMod, hnd, hmem⟩ := hM
  have hcount : c = l.length := by
    obtain ⟨C, hv, hCC⟩ := hC
    refine hv.count hnd (fun s => ?_)
    rw [hmem, hCC]
    cases A s <;> cases R s <;> simp [encC]
  subst hcount
  obtain ⟨a1, cap, rfl, hrow⟩ := hMod.row.form
  have HM := hid hMod
  have HC := hid hC
  have HMEM := hid hmem
  have HROW := hid hrow
  have HS := hid hs
  have hlt := hMod.lt
  have c0 := hMod.cell0
  have hll := hMod.len
  have hlen : ∀ q, (Builtin.len_ #[50] 3 #[.map (some Mc)]).run Try.prog (w.drewN q) = .ok (.int .i64 l.length) (w.drewN q) := fun q => by
    obtain ⟨C, hv, _⟩ := hC
    exact (VMap.congr (w' := w.drewN q) hv rfl).len Try.underlying50 3
  clear hMod hC hmem hrow hs hnd
  go_enter Try.func26, Try.ntmps26
  go_wp2_with fail
  go_quiet (fail)
  go_wp2_with fail
  clear hlen c0
  go_loopg [5] l.length (fun g i wr => ∃ k, g = l.length - k ∧ k ≤ l.length ∧ i = .int .i64 k ∧ Below w.heap.size w wr)
  case atStart => exact ⟨0, rfl, Nat.zero_le _, rfl, below_drewN (Below.refl _ _) _⟩
  case round =>
    obtain ⟨k, hg, hk, rfl, hbel⟩ := hrel
    have HG := hid hg
    have HB := hid hbel
    have HMW := hid (HM.out.old (fun i hi => HB.out.block i hi))
    have HCW := hid (HC.out.below HB.out)
    clear hg hbel
    have hlw := HMW.out.lt
    have c0 := HMW.out.cell0
    have c1 := HMW.out.cell1
    have c2 := HMW.out.cell2
    have c3 := HMW.out.cell3
    have c4 := HMW.out.cell4
    by_cases hlk : k < l.length
    · obtain ⟨g, rfl, hcg⟩ := HROW.out k hlk
      have hcs := cell_below hcg HB.out
      have hin : l.getD k ByteArray.empty ∈ l := by simp [List.getD_eq_getElem?_getD, hlk]
      obtain ⟨s, hss⟩ : ∃ s, s = l.getD k ByteArray.empty := ⟨_, rfl⟩
      rw [← hss] at hcs hin
      have hAs := (HMEM.out s).1 hin
      have hsz := HS.out s hAs
      obtain ⟨a, hA⟩ := Option.isSome_iff_exists.1 hAs
      clear hcg hin hss hAs
      have hkl : (k : Int) < (l.length : Int) := by omega
      cases hR : R s with
      | none =>
        have l50 : (Instr.lookup 50 (.map (some Mc)) (.string s) true).run Try.prog wr = .ok (.tuple #[.agg #[.int .i64 0, .int .i64 a, .bool true], .bool true]) wr := by
          obtain ⟨C, hv, hCC⟩ := HCW.out
          have := hv.look_ok law9 Try.underlying50 (zero70 wr) (key9 hsz)
          rw [hCC, hA, hR] at this
          exact this
        have HMQ : Hid (∀ q, Mod ((wr.alloc (Obj.cells #[.int .i64 0, .int .i64 a, .bool true] 70)).drewN q) B n (.slice (some ⟨g, 0, none⟩) l.length cap) l (specS A R)) := fun q => HMW.out.old (fun i hi => Below.heap_alloc wr _ i hi)
        have l66 : ∀ q, (Instr.lookup 66 (.map (some (B + 1))) (.string s) false).run Try.prog ((wr.alloc (Obj.cells #[.int .i64 0, .int .i64 a, .bool true] 70)).drewN q) = .ok (.int .i64 a) ((wr.alloc (Obj.cells #[.int .i64 0, .int .i64 a, .bool true] 70)).drewN q) := fun q => (HMQ.out q).get (i := 1) (by omega) Try.underlying66 (zero2 _) hsz (x := some (.int .i64 a)) (by simp [specS, hA])
        have l65 : ∀ q, (Instr.lookup 65 (.map (some (B + 2))) (.string s) false).run Try.prog ((wr.alloc (Obj.cells #[.int .i64 0, .int .i64 a, .bool true] 70)).drewN q) = .ok (.bool false) ((wr.alloc (Obj.cells #[.int .i64 0, .int .i64 a, .bool true] 70)).drewN q) := fun q => (HMQ.out q).get (i := 2) (by omega) Try.underlying65 (zero4 _) hsz (x := none) (by simp [specS, hR])
        go_wp2_with fail
        go_quiet (fail)
        go_wp2_with fail
        go_quiet (fail)
        go_wp2_with fail
        go_roundg (l.length - (k + 1))
        case measure => rw [HG.out]; omega
        case rel => exact ⟨k + 1, rfl, by omega, by go_num, below_drewN (HB.out.alloc (by have := HB.out.size; omega) _) _⟩
      | some r =>
        have l50 : (Instr.lookup 50 (.map (some Mc)) (.string s) true).run Try.prog wr = .ok (.tuple #[.agg #[.int .i64 r, .int .i64 a, .bool false], .bool true]) wr := by
          obtain ⟨C, hv, hCC⟩ := HCW.out
          have := hv.look_ok law9 Try.underlying50 (zero70 wr) (key9 hsz)
          rw [hCC, hA, hR] at this
          exact this
        have HMQ : Hid (∀ q, Mod ((wr.alloc (Obj.cells #[.int .i64 r, .int .i64 a, .bool false] 70)).drewN q) B n (.slice (some ⟨g, 0, none⟩) l.length cap) l (specS A R)) := fun q => HMW.out.old (fun i hi => Below.heap_alloc wr _ i hi)
        have l66 : ∀ q, (Instr.lookup 66 (.map (some (B + 1))) (.string s) false).run Try.prog ((wr.alloc (Obj.cells #[.int .i64 r, .int .i64 a, .bool false] 70)).drewN q) = .ok (.int .i64 a) ((wr.alloc (Obj.cells #[.int .i64 r, .int .i64 a, .bool false] 70)).drewN q) := fun q => (HMQ.out q).get (i := 1) (by omega) Try.underlying66 (zero2 _) hsz (x := some (.int .i64 a)) (by simp [specS, hA])
        have l65 : ∀ q, (Instr.lookup 65 (.map (some (B + 2))) (.string s) false).run Try.prog ((wr.alloc (Obj.cells #[.int .i64 r, .int .i64 a, .bool false] 70)).drewN q) = .ok (.bool true) ((wr.alloc (Obj.cells #[.int .i64 r, .int .i64 a, .bool false] 70)).drewN q) := fun q => (HMQ.out q).get (i := 2) (by omega) Try.underlying65 (zero4 _) hsz (x := some (.bool true)) (by simp [specS, hR])
        have l67 : ∀ q, (Instr.lookup 66 (.map (some (B + 3))) (.string s) false).run Try.prog ((wr.alloc (Obj.cells #[.int .i64 r, .int .i64 a, .bool false] 70)).drewN q) = .ok (.int .i64 r) ((wr.alloc (Obj.cells #[.int .i64 r, .int .i64 a, .bool false] 70)).drewN q) := fun q => (HMQ.out q).get (i := 3) (by omega) Try.underlying66 (zero2 _) hsz (x := some (.int .i64 r)) (by simp [specS, hR])
        go_wp2_with fail
        go_quiet (fail)
        go_wp2_with fail
        go_quiet (fail)
        go_wp2_with fail
        go_quiet (fail)
        go_wp2_with fail
        go_roundg (l.length - (k + 1))
        case measure => rw [HG.out]; omega
        case rel => exact ⟨k + 1, rfl, by omega, by go_num, below_drewN (HB.out.alloc (by have := HB.out.size; omega) _) _⟩
    · obtain rfl : k = l.length := by omega
      go_wp2_with fail
      go_ret
      exact ⟨rfl, HB.out⟩

end Go.Proofs.Qxb6617267a
