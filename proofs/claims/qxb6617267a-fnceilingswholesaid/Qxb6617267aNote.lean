/-
  'note' by its contract.
-/
import Derived.Test.Qxb6617267aMod
namespace Go.Proofs.Qxb6617267a
open Go.ChangeShapes Go.WideShapes Go.ChangeAt Go.RowKit
set_option linter.unusedVariables false
set_option linter.unusedSimpArgs false

theorem Below.tr {B : Nat} {a b c : World} (h : Below B a b) (h' : Below B b c) : Below B a c := h.trans h'

set_option maxRecDepth 100000 in
set_option maxHeartbeats 8000000 in
theorem note_any (w : World) (B n : Nat) (A R : ByteArray → Option Int) (it : ByteArray) (p : Int) (f : Bool) (hM : Model w B n A R) (hs : it.size ≤ maxLen) (hn : n ≤ 1000000000000) (hAR : A it = none → R it = none) :
    Calls Try.prog 25 #[.pointer (some ⟨B + 4, 0, none⟩), .string it, .int .i64 p, .bool f] w fun e w' => e = .returned (.tuple #[]) ∧ Below B w w' ∧ Model w' B (n + 8) (setA A it p) (setR R it p f) := by
  obtain ⟨v, l, hMod, hit⟩ := hM
  have HM := hid hMod
  have HIT := hid hit
  clear hMod hit
  have hlt := HM.out.lt
  have c0 := HM.out.cell0
  have c1 := HM.out.cell1
  have c2 := HM.out.cell2
  have c3 := HM.out.cell3
  have c4 := HM.out.cell4
  cases hA : A it with
  | none =>
    have hR := hAR hA
    clear hAR
    cases f
    · have a1 : (Instr.lookup 65 (.map (some B)) (.string it) false).run Try.prog w = .ok (.bool false) w := HM.out.get (i := 0) (by omega) Try.underlying65 (zero4 w) hs (x := none) (by simp [specS, hA])
      obtain ⟨w1, hrun1, hm1, hb1⟩ := HM.out.put (i := 0) (by omega) Try.underlying65 (by unfold maxLen; omega) hs (.bool true)
      rw [Nat.add_zero] at hrun1
      have HM1 := hid hm1
      have HB1 := hid hb1
      clear hm1 hb1
      have slt := HM1.out.lt
      have sc0 := HM1.out.cell0
      obtain ⟨i0, hi0, hz0, hz1, hz2⟩ := info_parts info9
      have HROW : Hid ((w1.alloc (.cells #[.string it] 9)).ownsRow B 9 1 v l.length (l.map Value.string)) := World.ownsRow.alloc HM1.out.row _
      have HLEN : Hid (l.length ≤ n) := HM.out.len
      have H63 : Hid (l.length + 1 ≤ maxLen) := by have := HLEN.out; unfold Hid maxLen; omega
      have HBY : Hid ((l.length + 1) * 16 ≤ 140737488355328) := by have := HLEN.out; unfold Hid; omega
      have HNE : Hid (some (B + 4) ≠ v.ownBlock) := fun e => by obtain ⟨_, cur, hcc⟩ := HM1.out.row.block e.symm; rw [HM1.out.q] at hcc; cases hcc
      have HRB : Hid (∀ j, v.ownBlock = some j → B ≤ j) := fun j hj => (HM1.out.row.block hj).1
      have HFAR : Hid (∀ w2 : World, (w1.alloc (.cells #[.string it] 9)).grownBy w2 v.ownBlock → w2.cell? ⟨B + 4, 0, none⟩ = some v ∧ w2.frozen? ⟨B + 4, 0, none⟩ = false ∧ B + 4 < w2.heap.size) := fun w2 hg => by
        refine ⟨by rw [hg.cell_far _ (by simp; omega) HNE.out, World.cell?_alloc_past _ _ _ slt]; exact sc0, ?_, by have h1 := hg.size; simp at h1; omega⟩
        rw [hg.frozen_far _ (by simp; omega) HNE.out]
        have hh : (w1.alloc (.cells #[.string it] 9)).heap[B + 4]? = w1.heap[B + 4]? := Below.heap_alloc w1 _ _ slt
        simp [World.frozen?, hh, HM1.out.q]
      go_enter Try.func25, Try.ntmps25
      go_wp2_with (refine wpList_append_lies _ (by rfl) _ _ 36 (by rfl) B 9 i0 _ 1 16 Try.underlying36 hi0 hz0 hz1 hz2 rfl (by omega) v l.length (l.map Value.string) (by rfl) HROW.out ⟨w1.heap.size, 0, none⟩ 1 1 [.string it] (by rfl) (by rfl) (World.news_of_block (cs := #[.string it]) (t := 9) (fr := (0, 0)) (heap_alloc_new w1 _)) (by simp [Value.oneCell']) (by omega) H63.out HBY.out (by simp; omega) (w1.heap.size + 1) (by simp) ?_; intro g cap w2 hown hgrow hatg hltg; obtain ⟨fc, ff, fl⟩ := HFAR.out w2 hgrow; have HM2 : Hid (Mod (w2.setCell ⟨B + 4, 0, none⟩ (.slice (some ⟨g, 0, none⟩) (l.length + 1) cap)) B (n + 2) (.slice (some ⟨g, 0, none⟩) (l.length + 1) cap) (l ++ [it]) (put (specS A R) 0 it (.bool true))) := Mod.appended (W := w1.alloc (.cells #[.string it] 9)) (C := #[.string it]) HM1.out rfl hown hgrow; have HB2 : Hid (Below B w (w2.setCell ⟨B + 4, 0, none⟩ (.slice (some ⟨g, 0, none⟩) (l.length + 1) cap))) := Below.setCell ((HB1.out.alloc (by omega) _).grown hgrow (by simp; omega) HRB.out) (by show B ≤ B + 4; omega) _; have tlt := HM2.out.lt; have tc2 := HM2.out.cell2; obtain ⟨wa, hruna, hma, hba⟩ := HM2.out.put (i := 1) (by omega) Try.underlying66 (by unfold maxLen; omega) hs (.int .i64 p); have HMA : Hid (Mod wa B (n + 3) (.slice (some ⟨g, 0, none⟩) (l.length + 1) cap) (l ++ [it]) (specS (setA A it p) R)) := hma.ext (by omega) (specA_new p hA); have HBX : Hid (Below B w wa) := HB2.out.trans hba; clear hma hba hown hgrow hatg hltg; have hAR2 : True := trivial; skip)
      go_end0
      exact ⟨rfl, HBX.out, _, _, by rw [setR_false]; exact (HMA.out.ext (by omega) (fun i hi x => rfl)), items_new p hA HIT.out⟩
    · have a1 : (Instr.lookup 65 (.map (some B)) (.string it) false).run Try.prog w = .ok (.bool false) w := HM.out.get (i := 0) (by omega) Try.underlying65 (zero4 w) hs (x := none) (by simp [specS, hA])
      obtain ⟨w1, hrun1, hm1, hb1⟩ := HM.out.put (i := 0) (by omega) Try.underlying65 (by unfold maxLen; omega) hs (.bool true)
      rw [Nat.add_zero] at hrun1
      have HM1 := hid hm1
      have HB1 := hid hb1
      clear hm1 hb1
      have slt := HM1.out.lt
      have sc0 := HM1.out.cell0
      obtain ⟨i0, hi0, hz0, hz1, hz2⟩ := info_parts info9
      have HROW : Hid ((w1.alloc (.cells #[.string it] 9)).ownsRow B 9 1 v l.length (l.map Value.string)) := World.ownsRow.alloc HM1.out.row _
      have HLEN : Hid (l.length ≤ n) := HM.out.len
      have H63 : Hid (l.length + 1 ≤ maxLen) := by have := HLEN.out; unfold Hid maxLen; omega
      have HBY : Hid ((l.length + 1) * 16 ≤ 140737488355328) := by have := HLEN.out; unfold Hid; omega
      have HNE : Hid (some (B + 4) ≠ v.ownBlock) := fun e => by obtain ⟨_, cur, hcc⟩ := HM1.out.row.block e.symm; rw [HM1.out.q] at hcc; cases hcc
      have HRB : Hid (∀ j, v.ownBlock = some j → B ≤ j) := fun j hj => (HM1.out.row.block hj).1
      have HFAR : Hid (∀ w2 : World, (w1.alloc (.cells #[.string it] 9)).grownBy w2 v.ownBlock → w2.cell? ⟨B + 4, 0, none⟩ = some v ∧ w2.frozen? ⟨B + 4, 0, none⟩ = false ∧ B + 4 < w2.heap.size) := fun w2 hg => by
        refine ⟨by rw [hg.cell_far _ (by simp; omega) HNE.out, World.cell?_alloc_past _ _ _ slt]; exact sc0, ?_, by have h1 := hg.size; simp at h1; omega⟩
        rw [hg.frozen_far _ (by simp; omega) HNE.out]
        have hh : (w1.alloc (.cells #[.string it] 9)).heap[B + 4]? = w1.heap[B + 4]? := Below.heap_alloc w1 _ _ slt
        simp [World.frozen?, hh, HM1.out.q]
      go_enter Try.func25, Try.ntmps25
      go_wp2_with (refine wpList_append_lies _ (by rfl) _ _ 36 (by rfl) B 9 i0 _ 1 16 Try.underlying36 hi0 hz0 hz1 hz2 rfl (by omega) v l.length (l.map Value.string) (by rfl) HROW.out ⟨w1.heap.size, 0, none⟩ 1 1 [.string it] (by rfl) (by rfl) (World.news_of_block (cs := #[.string it]) (t := 9) (fr := (0, 0)) (heap_alloc_new w1 _)) (by simp [Value.oneCell']) (by omega) H63.out HBY.out (by simp; omega) (w1.heap.size + 1) (by simp) ?_; intro g cap w2 hown hgrow hatg hltg; obtain ⟨fc, ff, fl⟩ := HFAR.out w2 hgrow; have HM2 : Hid (Mod (w2.setCell ⟨B + 4, 0, none⟩ (.slice (some ⟨g, 0, none⟩) (l.length + 1) cap)) B (n + 2) (.slice (some ⟨g, 0, none⟩) (l.length + 1) cap) (l ++ [it]) (put (specS A R) 0 it (.bool true))) := Mod.appended (W := w1.alloc (.cells #[.string it] 9)) (C := #[.string it]) HM1.out rfl hown hgrow; have HB2 : Hid (Below B w (w2.setCell ⟨B + 4, 0, none⟩ (.slice (some ⟨g, 0, none⟩) (l.length + 1) cap))) := Below.setCell ((HB1.out.alloc (by omega) _).grown hgrow (by simp; omega) HRB.out) (by show B ≤ B + 4; omega) _; have tlt := HM2.out.lt; have tc2 := HM2.out.cell2; obtain ⟨wa, hruna, hma, hba⟩ := HM2.out.put (i := 1) (by omega) Try.underlying66 (by unfold maxLen; omega) hs (.int .i64 p); have HMA : Hid (Mod wa B (n + 3) (.slice (some ⟨g, 0, none⟩) (l.length + 1) cap) (l ++ [it]) (specS (setA A it p) R)) := hma.ext (by omega) (specA_new p hA); have HBX : Hid (Below B w wa) := HB2.out.trans hba; clear hma hba hown hgrow hatg hltg; have hAR2 : True := trivial; have alt := HMA.out.lt; have ac3 := HMA.out.cell3; have ac4 := HMA.out.cell4; have r1 : (Instr.lookup 65 (.map (some (B + 2))) (.string it) false).run Try.prog wa = .ok (.bool false) wa := HMA.out.get (i := 2) (by omega) Try.underlying65 (zero4 wa) hs (x := none) (by simp [specS, hR]); obtain ⟨wb, hrunb, hmb, hbb⟩ := HMA.out.put (i := 2) (by omega) Try.underlying65 (by unfold maxLen; omega) hs (.bool true); have HMB := hid hmb; have HBB := hid hbb; clear hmb hbb; have blt := HMB.out.lt; have bc4 := HMB.out.cell4; obtain ⟨wc, hrunc, hmc, hbc⟩ := HMB.out.put (i := 3) (by omega) Try.underlying66 (by unfold maxLen; omega) hs (.int .i64 p); have HMC := hid hmc; have HBC := hid hbc; clear hmc hbc)
      go_end0
      exact ⟨rfl, ((HBX.out).trans HBB.out).trans HBC.out, _, _, HMC.out.ext (by omega) (specR_new p hR), items_new p hA HIT.out⟩
  | some a =>
    clear hAR
    by_cases hap : a < p
    · cases f
      · have a1 : (Instr.lookup 65 (.map (some B)) (.string it) false).run Try.prog w = .ok (.bool true) w := HM.out.get (i := 0) (by omega) Try.underlying65 (zero4 w) hs (x := some (.bool true)) (by simp [specS, hA])
        have a2 : (Instr.lookup 66 (.map (some (B + 1))) (.string it) false).run Try.prog w = .ok (.int .i64 a) w := HM.out.get (i := 1) (by omega) Try.underlying66 (zero2 w) hs (x := some (.int .i64 a)) (by simp [specS, hA])
        obtain ⟨wa, hruna, hma, hba⟩ := HM.out.put (i := 1) (by omega) Try.underlying66 (by unfold maxLen; omega) hs (.int .i64 p)
        have HMA : Hid (Mod wa B (n + 3) v l (specS (setA A it p) R)) := hma.ext (by omega) (specA_up hA hap)
        have HBX := hid hba
        clear hma hba
        go_enter Try.func25, Try.ntmps25
        go_wp2_with fail
        go_end0
        exact ⟨rfl, HBX.out, _, _, by rw [setR_false]; exact (HMA.out.ext (by omega) (fun i hi x => rfl)), items_old p hA HIT.out⟩
      · cases hR : R it with
        | none =>
          have a1 : (Instr.lookup 65 (.map (some B)) (.string it) false).run Try.prog w = .ok (.bool true) w := HM.out.get (i := 0) (by omega) Try.underlying65 (zero4 w) hs (x := some (.bool true)) (by simp [specS, hA])
          have a2 : (Instr.lookup 66 (.map (some (B + 1))) (.string it) false).run Try.prog w = .ok (.int .i64 a) w := HM.out.get (i := 1) (by omega) Try.underlying66 (zero2 w) hs (x := some (.int .i64 a)) (by simp [specS, hA])
          obtain ⟨wa, hruna, hma, hba⟩ := HM.out.put (i := 1) (by omega) Try.underlying66 (by unfold maxLen; omega) hs (.int .i64 p)
          have HMA : Hid (Mod wa B (n + 3) v l (specS (setA A it p) R)) := hma.ext (by omega) (specA_up hA hap)
          have HBX := hid hba
          clear hma hba
          have alt := HMA.out.lt
          have ac3 := HMA.out.cell3
          have ac4 := HMA.out.cell4
          have r1 : (Instr.lookup 65 (.map (some (B + 2))) (.string it) false).run Try.prog wa = .ok (.bool false) wa := HMA.out.get (i := 2) (by omega) Try.underlying65 (zero4 wa) hs (x := none) (by simp [specS, hR])
          obtain ⟨wb, hrunb, hmb, hbb⟩ := HMA.out.put (i := 2) (by omega) Try.underlying65 (by unfold maxLen; omega) hs (.bool true)
          have HMB := hid hmb
          have HBB := hid hbb
          clear hmb hbb
          have blt := HMB.out.lt
          have bc4 := HMB.out.cell4
          obtain ⟨wc, hrunc, hmc, hbc⟩ := HMB.out.put (i := 3) (by omega) Try.underlying66 (by unfold maxLen; omega) hs (.int .i64 p)
          have HMC := hid hmc
          have HBC := hid hbc
          clear hmc hbc
          go_enter Try.func25, Try.ntmps25
          go_wp2_with fail
          go_end0
          exact ⟨rfl, ((HBX.out).trans HBB.out).trans HBC.out, _, _, HMC.out.ext (by omega) (specR_new p hR), items_old p hA HIT.out⟩
        | some r =>
          by_cases hrp : r < p
          · have a1 : (Instr.lookup 65 (.map (some B)) (.string it) false).run Try.prog w = .ok (.bool true) w := HM.out.get (i := 0) (by omega) Try.underlying65 (zero4 w) hs (x := some (.bool true)) (by simp [specS, hA])
            have a2 : (Instr.lookup 66 (.map (some (B + 1))) (.string it) false).run Try.prog w = .ok (.int .i64 a) w := HM.out.get (i := 1) (by omega) Try.underlying66 (zero2 w) hs (x := some (.int .i64 a)) (by simp [specS, hA])
            obtain ⟨wa, hruna, hma, hba⟩ := HM.out.put (i := 1) (by omega) Try.underlying66 (by unfold maxLen; omega) hs (.int .i64 p)
            have HMA : Hid (Mod wa B (n + 3) v l (specS (setA A it p) R)) := hma.ext (by omega) (specA_up hA hap)
            have HBX := hid hba
            clear hma hba
            have alt := HMA.out.lt
            have ac3 := HMA.out.cell3
            have ac4 := HMA.out.cell4
            have r1 : (Instr.lookup 65 (.map (some (B + 2))) (.string it) false).run Try.prog wa = .ok (.bool true) wa := HMA.out.get (i := 2) (by omega) Try.underlying65 (zero4 wa) hs (x := some (.bool true)) (by simp [specS, hR])
            have r2 : (Instr.lookup 66 (.map (some (B + 3))) (.string it) false).run Try.prog wa = .ok (.int .i64 r) wa := HMA.out.get (i := 3) (by omega) Try.underlying66 (zero2 wa) hs (x := some (.int .i64 r)) (by simp [specS, hR])
            obtain ⟨wb, hrunb, hmb, hbb⟩ := HMA.out.put (i := 3) (by omega) Try.underlying66 (by unfold maxLen; omega) hs (.int .i64 p)
            have HMB := hid hmb
            have HBB := hid hbb
            clear hmb hbb
            go_enter Try.func25, Try.ntmps25
            go_wp2_with fail
            go_end0
            exact ⟨rfl, (HBX.out).trans HBB.out, _, _, HMB.out.ext (by omega) (specR_up hR hrp), items_old p hA HIT.out⟩
          · have a1 : (Instr.lookup 65 (.map (some B)) (.string it) false).run Try.prog w = .ok (.bool true) w := HM.out.get (i := 0) (by omega) Try.underlying65 (zero4 w) hs (x := some (.bool true)) (by simp [specS, hA])
            have a2 : (Instr.lookup 66 (.map (some (B + 1))) (.string it) false).run Try.prog w = .ok (.int .i64 a) w := HM.out.get (i := 1) (by omega) Try.underlying66 (zero2 w) hs (x := some (.int .i64 a)) (by simp [specS, hA])
            obtain ⟨wa, hruna, hma, hba⟩ := HM.out.put (i := 1) (by omega) Try.underlying66 (by unfold maxLen; omega) hs (.int .i64 p)
            have HMA : Hid (Mod wa B (n + 3) v l (specS (setA A it p) R)) := hma.ext (by omega) (specA_up hA hap)
            have HBX := hid hba
            clear hma hba
            have alt := HMA.out.lt
            have ac3 := HMA.out.cell3
            have ac4 := HMA.out.cell4
            have r1 : (Instr.lookup 65 (.map (some (B + 2))) (.string it) false).run Try.prog wa = .ok (.bool true) wa := HMA.out.get (i := 2) (by omega) Try.underlying65 (zero4 wa) hs (x := some (.bool true)) (by simp [specS, hR])
            have r2 : (Instr.lookup 66 (.map (some (B + 3))) (.string it) false).run Try.prog wa = .ok (.int .i64 r) wa := HMA.out.get (i := 3) (by omega) Try.underlying66 (zero2 wa) hs (x := some (.int .i64 r)) (by simp [specS, hR])
            go_enter Try.func25, Try.ntmps25
            go_wp2_with fail
            go_end0
            exact ⟨rfl, HBX.out, _, _, HMA.out.ext (by omega) (specR_no hR (by omega)), items_old p hA HIT.out⟩
    · cases f
      · have a1 : (Instr.lookup 65 (.map (some B)) (.string it) false).run Try.prog w = .ok (.bool true) w := HM.out.get (i := 0) (by omega) Try.underlying65 (zero4 w) hs (x := some (.bool true)) (by simp [specS, hA])
        have a2 : (Instr.lookup 66 (.map (some (B + 1))) (.string it) false).run Try.prog w = .ok (.int .i64 a) w := HM.out.get (i := 1) (by omega) Try.underlying66 (zero2 w) hs (x := some (.int .i64 a)) (by simp [specS, hA])
        have HMA : Hid (Mod w B (n + 3) v l (specS (setA A it p) R)) := HM.out.ext (by omega) (specA_no hA hap)
        have HBX : Hid (Below B w w) := Below.refl _ _
        go_enter Try.func25, Try.ntmps25
        go_wp2_with fail
        go_end0
        exact ⟨rfl, HBX.out, _, _, by rw [setR_false]; exact (HMA.out.ext (by omega) (fun i hi x => rfl)), items_old p hA HIT.out⟩
      · cases hR : R it with
        | none =>
          have a1 : (Instr.lookup 65 (.map (some B)) (.string it) false).run Try.prog w = .ok (.bool true) w := HM.out.get (i := 0) (by omega) Try.underlying65 (zero4 w) hs (x := some (.bool true)) (by simp [specS, hA])
          have a2 : (Instr.lookup 66 (.map (some (B + 1))) (.string it) false).run Try.prog w = .ok (.int .i64 a) w := HM.out.get (i := 1) (by omega) Try.underlying66 (zero2 w) hs (x := some (.int .i64 a)) (by simp [specS, hA])
          have HMA : Hid (Mod w B (n + 3) v l (specS (setA A it p) R)) := HM.out.ext (by omega) (specA_no hA hap)
          have HBX : Hid (Below B w w) := Below.refl _ _
          have r1 : (Instr.lookup 65 (.map (some (B + 2))) (.string it) false).run Try.prog w = .ok (.bool false) w := HMA.out.get (i := 2) (by omega) Try.underlying65 (zero4 w) hs (x := none) (by simp [specS, hR])
          obtain ⟨wb, hrunb, hmb, hbb⟩ := HMA.out.put (i := 2) (by omega) Try.underlying65 (by unfold maxLen; omega) hs (.bool true)
          have HMB := hid hmb
          have HBB := hid hbb
          clear hmb hbb
          have blt := HMB.out.lt
          have bc4 := HMB.out.cell4
          obtain ⟨wc, hrunc, hmc, hbc⟩ := HMB.out.put (i := 3) (by omega) Try.underlying66 (by unfold maxLen; omega) hs (.int .i64 p)
          have HMC := hid hmc
          have HBC := hid hbc
          clear hmc hbc
          go_enter Try.func25, Try.ntmps25
          go_wp2_with fail
          go_end0
          exact ⟨rfl, ((HBX.out).trans HBB.out).trans HBC.out, _, _, HMC.out.ext (by omega) (specR_new p hR), items_old p hA HIT.out⟩
        | some r =>
          by_cases hrp : r < p
          · have a1 : (Instr.lookup 65 (.map (some B)) (.string it) false).run Try.prog w = .ok (.bool true) w := HM.out.get (i := 0) (by omega) Try.underlying65 (zero4 w) hs (x := some (.bool true)) (by simp [specS, hA])
            have a2 : (Instr.lookup 66 (.map (some (B + 1))) (.string it) false).run Try.prog w = .ok (.int .i64 a) w := HM.out.get (i := 1) (by omega) Try.underlying66 (zero2 w) hs (x := some (.int .i64 a)) (by simp [specS, hA])
            have HMA : Hid (Mod w B (n + 3) v l (specS (setA A it p) R)) := HM.out.ext (by omega) (specA_no hA hap)
            have HBX : Hid (Below B w w) := Below.refl _ _
            have r1 : (Instr.lookup 65 (.map (some (B + 2))) (.string it) false).run Try.prog w = .ok (.bool true) w := HMA.out.get (i := 2) (by omega) Try.underlying65 (zero4 w) hs (x := some (.bool true)) (by simp [specS, hR])
            have r2 : (Instr.lookup 66 (.map (some (B + 3))) (.string it) false).run Try.prog w = .ok (.int .i64 r) w := HMA.out.get (i := 3) (by omega) Try.underlying66 (zero2 w) hs (x := some (.int .i64 r)) (by simp [specS, hR])
            obtain ⟨wb, hrunb, hmb, hbb⟩ := HMA.out.put (i := 3) (by omega) Try.underlying66 (by unfold maxLen; omega) hs (.int .i64 p)
            have HMB := hid hmb
            have HBB := hid hbb
            clear hmb hbb
            go_enter Try.func25, Try.ntmps25
            go_wp2_with fail
            go_end0
            exact ⟨rfl, (HBX.out).trans HBB.out, _, _, HMB.out.ext (by omega) (specR_up hR hrp), items_old p hA HIT.out⟩
          · have a1 : (Instr.lookup 65 (.map (some B)) (.string it) false).run Try.prog w = .ok (.bool true) w := HM.out.get (i := 0) (by omega) Try.underlying65 (zero4 w) hs (x := some (.bool true)) (by simp [specS, hA])
            have a2 : (Instr.lookup 66 (.map (some (B + 1))) (.string it) false).run Try.prog w = .ok (.int .i64 a) w := HM.out.get (i := 1) (by omega) Try.underlying66 (zero2 w) hs (x := some (.int .i64 a)) (by simp [specS, hA])
            have HMA : Hid (Mod w B (n + 3) v l (specS (setA A it p) R)) := HM.out.ext (by omega) (specA_no hA hap)
            have HBX : Hid (Below B w w) := Below.refl _ _
            have r1 : (Instr.lookup 65 (.map (some (B + 2))) (.string it) false).run Try.prog w = .ok (.bool true) w := HMA.out.get (i := 2) (by omega) Try.underlying65 (zero4 w) hs (x := some (.bool true)) (by simp [specS, hR])
            have r2 : (Instr.lookup 66 (.map (some (B + 3))) (.string it) false).run Try.prog w = .ok (.int .i64 r) w := HMA.out.get (i := 3) (by omega) Try.underlying66 (zero2 w) hs (x := some (.int .i64 r)) (by simp [specS, hR])
            go_enter Try.func25, Try.ntmps25
            go_wp2_with fail
            go_end0
            exact ⟨rfl, HBX.out, _, _, HMA.out.ext (by omega) (specR_no hR (by omega)), items_old p hA HIT.out⟩

end Go.Proofs.Qxb6617267a
