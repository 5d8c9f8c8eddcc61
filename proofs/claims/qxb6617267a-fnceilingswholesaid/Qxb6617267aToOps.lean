/-
  zzToOps: the copy.
-/
import Derived.Test.Qxb6617267aOps
namespace Go.Proofs.Qxb6617267a
open Go.ChangeShapes Go.WideShapes Go.ChangeAt Go.RowKit
set_option linter.unusedVariables false

theorem info58 : ∃ i z, Try.prog.info? 58 = some i ∧ i.zero = some z ∧ i.size = 7 ∧ i.bytes = 64 := by
  have h : (Try.prog.info? 58).map (fun i => (i.zero.isSome, i.size, i.bytes)) = some (true, 7, 64) := by kernel_rfl
  obtain ⟨i, hi, hzz⟩ := Option.map_eq_some_iff.1 h
  simp only [Prod.mk.injEq] at hzz
  obtain ⟨z, hz⟩ := Option.isSome_iff_exists.1 hzz.1
  exact ⟨i, z, hi, hz, hzz.2.1, hzz.2.2⟩

theorem make58 (n : Nat) (hn : n ≤ 16384) (w : World) : ∃ C : Array Value, (Instr.makeSlice 27 (.int .i64 (n : Int)) (.int .i64 (n : Int))).run Try.prog w = .ok (.slice (some ⟨w.heap.size, 0, none⟩) n n) (w.alloc (.cells C 58)) ∧ C.size = n * 7 := by
  obtain ⟨i, z, hi, hz, hs, hb⟩ := info58
  have hr := run_make (P := Try.prog) w 27 58 i _ Try.underlying27 hi hz .i64 .i64 n n (by omega) (Int.le_refl _) (by rw [hb]; omega) (by omega)
  simp only [Int.toNat_natCast, hs] at hr
  exact ⟨_, hr, size_madeCells _ _⟩

/-- Cell 7 i + j of the copy. -/
def opCell (o : OpR) : Nat → Value
  | 0 => .int .i64 o.line
  | 1 => .string o.text
  | 2 => .int .u8 o.kind
  | 3 => .bool o.decl
  | 4 => .int .u64 o.txn
  | 5 => .int .i64 o.prio
  | _ => .string o.item

structure CopyOps (w : World) (n : Nat) (O : Nat → OpR) (k : Nat) (i : Value) (wr : World) : Prop where
  le : k ≤ n
  i : i = .int .i64 k
  size : wr.heap.size = w.heap.size + 1
  below : Below w.heap.size w wr
  row : ∃ f, wr.rowIs w.heap.size 58 (n * 7) f ∧ ∀ j m, j < k → m < 7 → f (j * 7 + m) = opCell (O j) m

theorem size_setCell (w : World) (a : Addr) (v : Value) : (w.setCell a v).heap.size = w.heap.size := by simp [World.setCell]
theorem size_drew (w : World) : w.drew.heap.size = w.heap.size := rfl

/-- The world behind the seven stores. -/
theorem CopyOps.next {w : World} {n : Nat} {O : Nat → OpR} {k : Nat} {i : Value} {wr : World} (h : CopyOps w n O k i wr) (hlt : k < n) {W : World}
    (hW : W = ((((((((wr.setCell ⟨w.heap.size, k * 7, none⟩ (.int .i64 (O k).line)).setCell ⟨w.heap.size, k * 7 + 1, none⟩ (.string (O k).text)).setCell ⟨w.heap.size, k * 7 + 2, none⟩ (.int .u8 (O k).kind)).setCell ⟨w.heap.size, k * 7 + 3, none⟩ (.bool (O k).decl)).setCell
      ⟨w.heap.size, k * 7 + 4, none⟩ (.int .u64 (O k).txn)).setCell ⟨w.heap.size, k * 7 + 5, none⟩ (.int .i64 (O k).prio)).setCell ⟨w.heap.size, k * 7 + 6, none⟩ (.string (O k).item)).drew)) :
    CopyOps w n O (k + 1) (.int .i64 ((k : Int) + 1)) W := by
  obtain ⟨hk, _, hsz, hbel, f, hrow, hf⟩ := h
  have b1 := hbel.setCell (p := ⟨w.heap.size, k * 7, none⟩) (Nat.le_refl _) (.int .i64 (O k).line)
  have b2 := b1.setCell (p := ⟨w.heap.size, k * 7 + 1, none⟩) (Nat.le_refl _) (.string (O k).text)
  have b3 := b2.setCell (p := ⟨w.heap.size, k * 7 + 2, none⟩) (Nat.le_refl _) (.int .u8 (O k).kind)
  have b4 := b3.setCell (p := ⟨w.heap.size, k * 7 + 3, none⟩) (Nat.le_refl _) (.bool (O k).decl)
  have b5 := b4.setCell (p := ⟨w.heap.size, k * 7 + 4, none⟩) (Nat.le_refl _) (.int .u64 (O k).txn)
  have b6 := b5.setCell (p := ⟨w.heap.size, k * 7 + 5, none⟩) (Nat.le_refl _) (.int .i64 (O k).prio)
  have b7 := b6.setCell (p := ⟨w.heap.size, k * 7 + 6, none⟩) (Nat.le_refl _) (.string (O k).item)
  have r1 := hrow.set (k * 7) (.int .i64 (O k).line)
  have r2 := r1.set (k * 7 + 1) (.string (O k).text)
  have r3 := r2.set (k * 7 + 2) (.int .u8 (O k).kind)
  have r4 := r3.set (k * 7 + 3) (.bool (O k).decl)
  have r5 := r4.set (k * 7 + 4) (.int .u64 (O k).txn)
  have r6 := r5.set (k * 7 + 5) (.int .i64 (O k).prio)
  have r7 := r6.set (k * 7 + 6) (.string (O k).item)
  subst hW
  refine ⟨by omega, by go_num, ?_, b7.drew, _, r7.drew, fun j m hj hm => ?_⟩
  · rw [size_drew, size_setCell, size_setCell, size_setCell, size_setCell, size_setCell, size_setCell, size_setCell]
    exact hsz
  · by_cases e : j = k
    · subst e
      match m, hm with
      | 0, _ => simp [opCell]
      | 1, _ => simp [opCell]
      | 2, _ => simp [opCell]
      | 3, _ => simp [opCell]
      | 4, _ => simp [opCell]
      | 5, _ => simp [opCell]
      | 6, _ => simp [opCell]
    · rw [if_neg (by omega), if_neg (by omega), if_neg (by omega), if_neg (by omega), if_neg (by omega), if_neg (by omega), if_neg (by omega)]
      exact hf j m (by omega) hm

theorem cell_setOther {w : World} {b b' o o' : Nat} (v : Value) (h : b ≠ b') : (w.setCell ⟨b', o', none⟩ v).cell? ⟨b, o, none⟩ = w.cell? ⟨b, o, none⟩ := World.cell?_of_block (Below.heap_setCell _ _ _ _ h)
theorem cell_drew' (w : World) (p : Addr) : w.drew.cell? p = w.cell? p := rfl

set_option maxHeartbeats 2000000 in
theorem toOps_any (a : Option Addr) (n c : Nat) (O : Nat → OpR) (w : World) (hS : IsOps w a n O) (hn : n ≤ 16384) :
    Calls Try.prog 10 #[.slice a n c] w fun e w' => ∃ a' c', e = .returned (.slice a' n c') ∧ IsOps w' a' n O ∧ Below w.heap.size w w' := by
  have HC := hid hS.2
  have HL := hid hS.1
  clear hS
  obtain ⟨C, hmk, hC⟩ := make58 n hn w
  have HCS := hid hC
  clear hC
  go_enter Try.func10, Try.ntmps10
  go_wp2
  go_loopg [4] n (fun g i wr => ∃ k, g = n - k ∧ CopyOps w n O k i wr)
  case atStart =>
    refine ⟨0, rfl, Nat.zero_le _, rfl, by simp, (Below.refl _ _).alloc (Nat.le_refl _) _, ⟨fun j => C[j]?.getD undef, ?_, fun j m hj => absurd hj (Nat.not_lt_zero _)⟩⟩
    rw [← HCS.out]
    exact World.rowIs_alloc w C 58 _ (fun i hi => by simp [hi])
  case round =>
    obtain ⟨k, hg, hk, rfl, hsz, hbel, ⟨f, hrow, hf⟩⟩ := hrel
    have HG := hid hg
    have HB := hid hbel
    have HR := hid hrow
    have HF := hid hf
    have HSZ := hid hsz
    clear hg hbel hrow hf hsz hmk
    by_cases hlt : k < n
    · obtain ⟨b, off, rfl, hb, hat, _⟩ := HC.out k hlt
      obtain ⟨q0, q1, q2, q3, q4, q5, q6⟩ := hat.below HB.out hb
      have d0 := HR.out.cell (i := k * 7) (by omega)
      have d1 := HR.out.cell (i := k * 7 + 1) (by omega)
      have d2 := HR.out.cell (i := k * 7 + 2) (by omega)
      have d3 := HR.out.cell (i := k * 7 + 3) (by omega)
      have d4 := HR.out.cell (i := k * 7 + 4) (by omega)
      have d5 := HR.out.cell (i := k * 7 + 5) (by omega)
      have d6 := HR.out.cell (i := k * 7 + 6) (by omega)
      have f0 := HR.out.frozen (k * 7)
      have f1 := HR.out.frozen (k * 7 + 1)
      have f2 := HR.out.frozen (k * 7 + 2)
      have f3 := HR.out.frozen (k * 7 + 3)
      have f4 := HR.out.frozen (k * 7 + 4)
      have f5 := HR.out.frozen (k * 7 + 5)
      have f6 := HR.out.frozen (k * 7 + 6)
      have hkl : (k : Int) < (n : Int) := by omega
      have hk0 : (0 : Int) ≤ (k : Int) := by omega
      have hbne : b ≠ w.heap.size := by omega
      clear hat
      go_wp2
      go_region_held3 (fun w' => w'.cell? ⟨b, off + k * 7, none⟩ = some (.int .i64 (O k).line) ∧ w'.cell? ⟨b, off + k * 7 + 1, none⟩ = some (.string (O k).text) ∧ w'.cell? ⟨b, off + k * 7 + 2, none⟩ = some (.int .u8 (O k).kind) ∧ w'.cell? ⟨b, off + k * 7 + 3, none⟩ = some (.bool (O k).decl) ∧ w'.cell? ⟨b, off + k * 7 + 4, none⟩ = some (.int .u64 (O k).txn) ∧ w'.cell? ⟨b, off + k * 7 + 5, none⟩ = some (.int .i64 (O k).prio) ∧ w'.cell? ⟨b, off + k * 7 + 6, none⟩ = some (.string (O k).item)) (first | (refine ⟨?_, ?_, ?_, ?_, ?_, ?_, ?_⟩ <;> (simp only [cell_drew', cell_setOther _ hbne]; assumption)) | go_keep) (fail)
      go_wp2
      go_roundg (n - (k + 1))
      case measure => rw [HG.out]; omega
      case rel =>
        exact ⟨k + 1, rfl, CopyOps.next ⟨hk, rfl, HSZ.out, HB.out, f, HR.out, HF.out⟩ hlt rfl⟩
    · obtain rfl : k = n := by omega
      go_wp2
      go_ret
      refine ⟨some ⟨w.heap.size, 0, none⟩, k, rfl, ⟨HL.out, fun i hi => ⟨w.heap.size, 0, rfl, by have := HSZ.out; omega, ?_, ?_⟩⟩, HB.out⟩
      · unfold OpAt
        have hcell : ∀ m, m < 7 → wr.cell? ⟨w.heap.size, i * 7 + m, none⟩ = some (opCell (O i) m) := fun m hm => by rw [HR.out.cell (by omega), HF.out i m hi hm]
        rw [Nat.zero_add]
        exact ⟨hcell 0 (by omega), hcell 1 (by omega), hcell 2 (by omega), hcell 3 (by omega), hcell 4 (by omega), hcell 5 (by omega), hcell 6 (by omega)⟩
      · obtain ⟨_, _, _, _, _, h⟩ := HC.out i hi; exact h

end Go.Proofs.Qxb6617267a
