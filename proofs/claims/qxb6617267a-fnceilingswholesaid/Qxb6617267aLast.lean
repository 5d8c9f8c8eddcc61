/-
  zzLastDeclBegins: the last declaring begin of each transaction.
-/
import Derived.Test.Qxb6617267aToOps
namespace Go.Proofs.Qxb6617267a
open Go.ChangeShapes Go.WideShapes Go.ChangeAt Go.RowKit
set_option linter.unusedVariables false

/-- The key of a transaction. -/
def uk (t : Int) : Lit := .int .u64 t
theorem uk_inj {s t : Int} (h : uk s = uk t) : s = t := by unfold uk at h; cases h; rfl
theorem uk_same (s t : Int) : (uk s).sameKey (uk t) = decide (s = t) := by
  by_cases h : s = t
  · subst h; rw [WideAt.sameKey_self (by exact trivial)]; simp
  · rw [Maps.sameKey_ne (fun e => h (uk_inj e))]; simp [h]
theorem upd_uk (f : Lit → Option Value) (s t : Int) (v : Value) : upd f (uk t) v (uk s) = if s = t then some v else f (uk s) := by
  unfold upd; rw [uk_same]; by_cases h : s = t <;> simp [h]

def isDecl (all : Bool) (o : OpR) : Bool := (o.kind == 1) && (all || o.decl)

def lastD (O : Nat → OpR) (all : Bool) : Nat → Int → Option Nat
  | 0, _ => none
  | k + 1, t => if isDecl all (O k) = true ∧ (O k).txn = t then some k else lastD O all k t

def cntD (O : Nat → OpR) (all : Bool) : Nat → Nat
  | 0 => 0
  | k + 1 => if isDecl all (O k) = true then (if (lastD O all k (O k).txn).isSome then cntD O all k else cntD O all k + 1) else cntD O all k

theorem cntD_le (O : Nat → OpR) (all : Bool) : ∀ k, cntD O all k ≤ k
  | 0 => Nat.le_refl _
  | k + 1 => by have := cntD_le O all k; unfold cntD; split <;> (try split) <;> omega

theorem law32 : Maps.Keyed Try.prog 32 := Maps.int_keyed Try.underlying32
theorem key32 {t : Int} (h : (Lit.int .u64 t).wf = true) : keyOf Try.prog 32 (.int .u64 t) = some (uk t) := Maps.keyOf_int_mk Try.underlying32 h
theorem zero3 (w : World) : (zeroValue 3).run Try.prog w = .ok (.int .i64 0) w := by kernel_rfl

/-- Block M holds the last declaring begins among the first k operations. -/
def IsLast (w : World) (M : Nat) (O : Nat → OpR) (all : Bool) (k : Nat) : Prop :=
  ∃ F, VMap Try.prog 32 w M (cntD O all k) F ∧ ∀ t, F (uk t) = (lastD O all k t).map (fun b => .int .i64 (b : Int))

theorem IsLast.skip {w : World} {M : Nat} {O : Nat → OpR} {all : Bool} {k : Nat} (h : IsLast w M O all k) (hd : isDecl all (O k) = false) : IsLast w M O all (k + 1) := by
  obtain ⟨F, hv, hF⟩ := h
  refine ⟨F, ?_, fun t => ?_⟩
  · rw [cntD, hd]; exact hv
  · rw [lastD, hd, if_neg (by simp)]; exact hF t

theorem IsLast.hit {w' : World} {M : Nat} {O : Nat → OpR} {all : Bool} {k : Nat} {F : Lit → Option Value} (hF : ∀ t, F (uk t) = (lastD O all k t).map (fun b => .int .i64 (b : Int))) (hd : isDecl all (O k) = true)
    (hv : VMap Try.prog 32 w' M (grow (F (uk (O k).txn)) (cntD O all k)) (upd F (uk (O k).txn) (.int .i64 (k : Int)))) : IsLast w' M O all (k + 1) := by
  refine ⟨upd F (uk (O k).txn) (.int .i64 (k : Int)), ?_, fun t => ?_⟩
  · have e : cntD O all (k + 1) = grow (F (uk (O k).txn)) (cntD O all k) := by
      rw [cntD, if_pos hd, hF]
      unfold grow
      cases lastD O all k (O k).txn <;> rfl
    rw [e]; exact hv
  · rw [upd_uk, lastD]
    by_cases e : (O k).txn = t
    · rw [if_pos e.symm, if_pos ⟨hd, e⟩]; rfl
    · rw [if_neg (fun h => e h.symm), if_neg (fun h => e h.2)]; exact hF t

structure LastR (w : World) (n : Nat) (O : Nat → OpR) (all : Bool) (k : Nat) (i : Value) (wr : World) : Prop where
  le : k ≤ n
  i : i = .int .i64 k
  below : Below w.heap.size w wr
  last : IsLast wr w.heap.size O all k

set_option maxHeartbeats 2000000 in
theorem last_any (a : Option Addr) (n c : Nat) (O : Nat → OpR) (all : Bool) (w : World) (hS : IsOps w a n O) (hn : n ≤ 16384) :
    Calls Try.prog 11 #[.slice a n c, .bool all] w fun e w' => e = .returned (.map (some w.heap.size)) ∧ Below w.heap.size w w' ∧ IsLast w' w.heap.size O all n := by
  have HC := hid hS.2
  clear hS
  have hmm := @run_makeMap Try.prog
  go_enter Try.func11, Try.ntmps11
  go_wp2_with fail
  go_loopg [6] n (fun g i wr => ∃ k, g = n - k ∧ LastR w n O all k i wr)
  case atStart => exact ⟨0, rfl, Nat.zero_le _, rfl, (Below.refl _ _).alloc (Nat.le_refl _) _, _, VMap.made Try.prog 32 w, fun t => rfl⟩
  case round =>
    obtain ⟨k, hg, hk, rfl, hbel, hlast⟩ := hrel
    have HG := hid hg
    have HB := hid hbel
    have HLA := hid hlast
    clear hg hbel hlast
    by_cases hlt : k < n
    · obtain ⟨b, off, rfl, hb, hat, hok⟩ := HC.out k hlt
      obtain ⟨q0, q1, q2, q3, q4, q5, q6⟩ := hat.below HB.out hb
      obtain ⟨_, _, ht, _⟩ := hok
      have HT := hid ht
      clear hat ht
      cases hd : isDecl all (O k)
      · have HD := hid hd
        unfold isDecl at hd
        cases hk1 : ((O k).kind == 1)
        · clear hd
          go_wp2_with fail
          go_roundg (n - (k + 1))
          case measure => rw [HG.out]; omega
          case rel => exact ⟨k + 1, rfl, by omega, by go_num, HB.out, HLA.out.skip HD.out⟩
        · rw [hk1] at hd
          simp only [Bool.true_and, Bool.or_eq_false_iff] at hd
          obtain ⟨rfl, hdd⟩ := hd
          go_wp2_with fail
          go_roundg (n - (k + 1))
          case measure => rw [HG.out]; omega
          case rel => exact ⟨k + 1, rfl, by omega, by go_num, HB.out, HLA.out.skip HD.out⟩
      · have HD := hid hd
        unfold isDecl at hd
        simp only [Bool.and_eq_true] at hd
        obtain ⟨hk1, hor⟩ := hd
        obtain ⟨F, hv, hF⟩ := HLA.out
        have HV := hid hv
        have HF := hid hF
        clear hv hF
        cases all
        · simp only [Bool.false_or] at hor
          go_wp2_with (at_mapUpdate; refine wpList_vstore (val := .int .i64 (k : Int)) _ rfl _ _ _ 29 rfl law32 Try.underlying29 rfl HV.out (by have := cntD_le O false k; unfold maxLen; omega) rfl rfl (key32 HT.out) ?_; intro w' hv' ht'; have HV' := hid hv'; have HT' := hid ht'; clear hv' ht')
          go_roundg (n - (k + 1))
          case measure => rw [HG.out]; omega
          case rel => exact ⟨k + 1, rfl, by omega, by go_num, below_turned HB.out HT'.out (Nat.le_refl _), IsLast.hit HF.out HD.out HV'.out⟩
        · clear hor
          go_wp2_with (at_mapUpdate; refine wpList_vstore (val := .int .i64 (k : Int)) _ rfl _ _ _ 29 rfl law32 Try.underlying29 rfl HV.out (by have := cntD_le O true k; unfold maxLen; omega) rfl rfl (key32 HT.out) ?_; intro w' hv' ht'; have HV' := hid hv'; have HT' := hid ht'; clear hv' ht')
          go_roundg (n - (k + 1))
          case measure => rw [HG.out]; omega
          case rel => exact ⟨k + 1, rfl, by omega, by go_num, below_turned HB.out HT'.out (Nat.le_refl _), IsLast.hit HF.out HD.out HV'.out⟩
    · obtain rfl : k = n := by omega
      go_wp2_with fail
      go_ret
      exact ⟨rfl, HB.out, HLA.out⟩

end Go.Proofs.Qxb6617267a
