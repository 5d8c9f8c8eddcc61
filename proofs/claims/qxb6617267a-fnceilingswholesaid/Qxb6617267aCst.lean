/-
  Ceilings: the plain layer (greatest priorities of a set of contributions), and the closure 'raise'.
-/
import Derived.Test.Qxb6617267aItem
import Derived.Test.Qxb6617267aVMap
import Derived.StringKeys
namespace Go.Proofs.Qxb6617267a
open Go.ChangeShapes Go.WideShapes Go.ChangeAt Go.RowKit
set_option linter.unusedVariables false
set_option linter.unusedSimpArgs false

/-! ### greatest elements -/
def OptMax (S : Int → Prop) : Option Int → Prop
  | none => ∀ p, ¬ S p
  | some m => S m ∧ ∀ p, S p → p ≤ m

def addMax : Option Int → Int → Option Int
  | none, p => some p
  | some a, p => some (if a < p then p else a)

theorem OptMax.add {S : Int → Prop} {o : Option Int} (h : OptMax S o) (p : Int) : OptMax (fun q => S q ∨ q = p) (addMax o p) := by
  cases o with
  | none => exact ⟨Or.inr rfl, fun q hq => by rcases hq with hq | hq; exact absurd hq (h q); omega⟩
  | some a =>
    obtain ⟨h1, h2⟩ := h
    show OptMax _ (some _)
    split
    · exact ⟨Or.inr rfl, fun q hq => by rcases hq with hq | hq; have := h2 q hq; omega; omega⟩
    · exact ⟨Or.inl h1, fun q hq => by rcases hq with hq | hq; exact h2 q hq; omega⟩

theorem OptMax.iff {S T : Int → Prop} {o : Option Int} (h : OptMax S o) (e : ∀ p, S p ↔ T p) : OptMax T o := by
  have : S = T := funext fun p => propext (e p)
  rwa [this] at h

theorem OptMax.unique {S : Int → Prop} {o o' : Option Int} (h : OptMax S o) (h' : OptMax S o') : o = o' := by
  cases o <;> cases o'
  · rfl
  · exact absurd h'.1 (h _)
  · exact absurd h.1 (h' _)
  · have h1 := h.2 _ h'.1
    have h2 := h'.2 _ h.1
    congr 1; omega

/-- The two greatest priorities of each item: of all contributions, of those that write. -/
structure Cei (X : ByteArray → Int → Bool → Prop) (A R : ByteArray → Option Int) : Prop where
  all : ∀ it, OptMax (fun p => ∃ f, X it p f) (A it)
  wr : ∀ it, OptMax (fun p => X it p true) (R it)

def setA (A : ByteArray → Option Int) (it : ByteArray) (p : Int) : ByteArray → Option Int := fun x => if x = it then addMax (A it) p else A x
def setR (R : ByteArray → Option Int) (it : ByteArray) (p : Int) (f : Bool) : ByteArray → Option Int := fun x => if x = it ∧ f = true then addMax (R it) p else R x

theorem Cei.start : Cei (fun _ _ _ => False) (fun _ => none) (fun _ => none) := ⟨fun _ p h => by obtain ⟨_, h⟩ := h; exact h, fun _ p h => h⟩

theorem Cei.add {X : ByteArray → Int → Bool → Prop} {A R : ByteArray → Option Int} (h : Cei X A R) (it : ByteArray) (p : Int) (f : Bool) :
    Cei (fun i q g => X i q g ∨ (i = it ∧ q = p ∧ g = f)) (setA A it p) (setR R it p f) := by
  constructor
  · intro x
    unfold setA
    by_cases e : x = it
    · subst e
      rw [if_pos rfl]
      refine ((h.all x).add p).iff (fun q => ⟨fun hq => ?_, fun hq => ?_⟩)
      · rcases hq with ⟨g, hg⟩ | hq
        · exact ⟨g, Or.inl hg⟩
        · exact ⟨f, Or.inr ⟨rfl, hq, rfl⟩⟩
      · obtain ⟨g, hg | hg⟩ := hq
        · exact Or.inl ⟨g, hg⟩
        · exact Or.inr hg.2.1
    · rw [if_neg e]
      exact (h.all x).iff (fun q => ⟨fun ⟨g, hg⟩ => ⟨g, Or.inl hg⟩, fun ⟨g, hg⟩ => ⟨g, hg.resolve_right (fun hh => e hh.1)⟩⟩)
  · intro x
    unfold setR
    by_cases e : x = it ∧ f = true
    · obtain ⟨e, ef⟩ := e
      subst e; subst ef
      rw [if_pos ⟨rfl, rfl⟩]
      refine ((h.wr x).add p).iff (fun q => ⟨fun hq => ?_, fun hq => ?_⟩)
      · rcases hq with hq | hq
        · exact Or.inl hq
        · exact Or.inr ⟨rfl, hq, rfl⟩
      · rcases hq with hq | hq
        · exact Or.inl hq
        · exact Or.inr hq.2.1
    · rw [if_neg e]
      exact (h.wr x).iff (fun q => ⟨Or.inl, fun hq => hq.resolve_right (fun hh => e ⟨hh.1, hh.2.2.symm⟩)⟩)

theorem Cei.iff {X Y : ByteArray → Int → Bool → Prop} {A R : ByteArray → Option Int} (h : Cei X A R) (e : ∀ i p f, X i p f ↔ Y i p f) : Cei Y A R := by
  have : X = Y := funext fun i => funext fun p => funext fun f => propext (e i p f)
  rwa [this] at h

theorem Cei.unique {X : ByteArray → Int → Bool → Prop} {A R A' R' : ByteArray → Option Int} (h : Cei X A R) (h' : Cei X A' R') : A = A' ∧ R = R' :=
  ⟨funext fun x => (h.all x).unique (h'.all x), funext fun x => (h.wr x).unique (h'.wr x)⟩

/-- Where nothing contributes nothing writes. -/
theorem Cei.quiet {X : ByteArray → Int → Bool → Prop} {A R : ByteArray → Option Int} (h : Cei X A R) {it : ByteArray} (hA : A it = none) : R it = none := by
  have h1 := h.all it
  have h2 := h.wr it
  rw [hA] at h1
  cases hR : R it with
  | none => rfl
  | some r => rw [hR] at h2; exact absurd ⟨true, h2.1⟩ (h1 r)

/-! ### the map of ceilings -/
/-- A ceiling as the value that the map holds. -/
def encC : Option Int → Option Int → Option Value
  | none, _ => none
  | some a, none => some (.agg #[.int .i64 0, .int .i64 a, .bool true])
  | some a, some r => some (.agg #[.int .i64 r, .int .i64 a, .bool false])

theorem law9 : Maps.Keyed Try.prog 9 := Maps.string_keyed Try.underlying9
theorem key9 {s : ByteArray} (h : s.size ≤ maxLen) : keyOf Try.prog 9 (.string s) = some (sk s) := WideMaps.keyOf_string_mk Try.underlying9 h
theorem zero70 (w : World) : (zeroValue 70).run Try.prog w = .ok (.agg #[.int .i64 0, .int .i64 0, .bool false]) w := by kernel_rfl
theorem zero2 (w : World) : (zeroValue 2).run Try.prog w = .ok (.int .i64 0) w := by kernel_rfl
theorem zero4 (w : World) : (zeroValue 4).run Try.prog w = .ok (.bool false) w := by kernel_rfl

/-- The map in block M holds the ceilings A, R. -/
def CMap (w : World) (M cnt : Nat) (A R : ByteArray → Option Int) : Prop := ∃ C, VMap Try.prog 9 w M cnt C ∧ ∀ it, C (sk it) = encC (A it) (R it)

theorem CMap.congr {w w' : World} {M cnt : Nat} {A R : ByteArray → Option Int} (h : CMap w M cnt A R) (hb : w'.heap[M]? = w.heap[M]?) : CMap w' M cnt A R := by
  obtain ⟨C, hv, hC⟩ := h; exact ⟨C, hv.congr hb, hC⟩
theorem CMap.lt {w : World} {M cnt : Nat} {A R : ByteArray → Option Int} (h : CMap w M cnt A R) : M < w.heap.size := by
  obtain ⟨C, hv, hC⟩ := h; exact hv.lt

/-- The contract of one contribution: what is left is the old world but for the map; a block more. -/
structure Raised (w w' : World) (M cnt : Nat) (A R : ByteArray → Option Int) (it : ByteArray) (p : Int) (f : Bool) : Prop where
  size : w.heap.size ≤ w'.heap.size
  same : ∀ i, i < w.heap.size → i ≠ M → w'.heap[i]? = w.heap[i]?
  below : ∀ B v, Below B v w → B ≤ M → Below B v w'
  map : ∃ c', c' ≤ cnt + 1 ∧ CMap w' M c' (setA A it p) (setR R it p f)


theorem encC_none (r : Option Int) : encC none r = none := by cases r <;> rfl

/-- Behind the store of a raised ceiling. -/
theorem CMap.raised {w' : World} {M cnt : Nat} {A R : ByteArray → Option Int} {C : Lit → Option Value} {it : ByteArray} {p : Int} {f : Bool} {v : Value} (hC : ∀ x, C (sk x) = encC (A x) (R x))
    (hv : VMap Try.prog 9 w' M (grow (C (sk it)) cnt) (upd C (sk it) v)) (e : some v = encC (addMax (A it) p) (if f then addMax (R it) p else R it)) : ∃ c', c' ≤ cnt + 1 ∧ CMap w' M c' (setA A it p) (setR R it p f) := by
  refine ⟨_, grow_le _ _, _, hv, fun x => ?_⟩
  rw [upd_sk]
  by_cases hx : x = it
  · subst hx
    rw [if_pos rfl, e]
    unfold setA setR
    cases f <;> simp
  · rw [if_neg hx, hC x]
    unfold setA setR
    rw [if_neg hx, if_neg (fun h => hx h.1)]

theorem Raised.mk' {w w' : World} {o : Obj} {M cnt : Nat} {A R : ByteArray → Option Int} {it : ByteArray} {p : Int} {f : Bool} (hM : M < w.heap.size) (ht : (w.alloc o).mapTurned w' M)
    (hm : ∃ c', c' ≤ cnt + 1 ∧ CMap w' M c' (setA A it p) (setR R it p f)) : Raised w w' M cnt A R it p f := by
  obtain ⟨h1, h2⟩ := turned_block ht
  refine ⟨by rw [h1]; simp, fun i hi hne => (h2 i hne).trans (Below.heap_alloc w _ i hi), fun B v hb hB => below_turned (hb.alloc (by omega) _) ht hB, hm⟩

set_option maxRecDepth 100000 in
set_option maxHeartbeats 4000000 in
theorem raise_any (w : World) (q M cnt : Nat) (A R : ByteArray → Option Int) (it : ByteArray) (p : Int) (f : Bool) (hq : w.cell? ⟨q, 0, none⟩ = some (.map (some M))) (hql : q < w.heap.size) (hm : CMap w M cnt A R) (hc : cnt < maxLen) (hs : it.size ≤ maxLen) (hR : A it = none → R it = none) :
    Calls Try.prog 33 #[.string it, .int .i64 p, .bool f, .pointer (some ⟨q, 0, none⟩)] w fun e w' => e = .returned (.tuple #[]) ∧ Raised w w' M cnt A R it p f := by
  obtain ⟨C, hv, hC⟩ := hm
  have l1 := hv.look_ok law9 Try.underlying50 (zero70 w) (key9 hs)
  rw [hC] at l1
  have HC := hid hC
  have HV := hid hv
  have hM := hv.lt
  have HM := hid hM
  clear hv hC
  cases hA : A it with
  | none =>
    have hRR := hR hA
    rw [hA, hRR] at l1
    have l2 : (Instr.lookup 50 (.map (some M)) (.string it) true).run Try.prog w = .ok (.tuple #[.agg #[.int .i64 0, .int .i64 0, .bool false], .bool false]) w := l1
    clear l1 hR
    cases f
    · go_enter Try.func33, Try.ntmps33
      go_wp2_with (at_mapUpdate; refine wpList_vstore (val := .agg #[.int .i64 0, .int .i64 p, .bool true]) _ rfl _ _ _ 50 rfl law9 Try.underlying50 rfl (HV.out.alloc _) hc rfl rfl (key9 hs) ?_; intro w' hv' ht'; have HV' := hid hv'; have HT' := hid ht'; clear hv' ht')
      go_end0
      exact ⟨rfl, Raised.mk' HM.out HT'.out (CMap.raised HC.out HV'.out (by rw [hA, hRR]; rfl))⟩
    · go_enter Try.func33, Try.ntmps33
      go_wp2_with (at_mapUpdate; refine wpList_vstore (val := .agg #[.int .i64 p, .int .i64 p, .bool false]) _ rfl _ _ _ 50 rfl law9 Try.underlying50 rfl (HV.out.alloc _) hc rfl rfl (key9 hs) ?_; intro w' hv' ht'; have HV' := hid hv'; have HT' := hid ht'; clear hv' ht')
      go_end0
      exact ⟨rfl, Raised.mk' HM.out HT'.out (CMap.raised HC.out HV'.out (by rw [hA, hRR]; rfl))⟩
  | some a =>
    clear hR
    rw [hA] at l1
    cases hRR : R it with
    | none =>
      rw [hRR] at l1
      have l2 : (Instr.lookup 50 (.map (some M)) (.string it) true).run Try.prog w = .ok (.tuple #[.agg #[.int .i64 0, .int .i64 a, .bool true], .bool true]) w := l1
      clear l1
      rcases Int.lt_trichotomy a p with h1 | h1 | h1
      · cases f
        · go_enter Try.func33, Try.ntmps33
          go_wp2_with (at_mapUpdate; refine wpList_vstore (val := .agg #[.int .i64 0, .int .i64 p, .bool true]) _ rfl _ _ _ 50 rfl law9 Try.underlying50 rfl (HV.out.alloc _) hc rfl rfl (key9 hs) ?_; intro w' hv' ht'; have HV' := hid hv'; have HT' := hid ht'; clear hv' ht')
          go_end0
          exact ⟨rfl, Raised.mk' HM.out HT'.out (CMap.raised HC.out HV'.out (by rw [hA, hRR]; simp [addMax, encC] <;> omega))⟩
        · go_enter Try.func33, Try.ntmps33
          go_wp2_with (at_mapUpdate; refine wpList_vstore (val := .agg #[.int .i64 p, .int .i64 p, .bool false]) _ rfl _ _ _ 50 rfl law9 Try.underlying50 rfl (HV.out.alloc _) hc rfl rfl (key9 hs) ?_; intro w' hv' ht'; have HV' := hid hv'; have HT' := hid ht'; clear hv' ht')
          go_end0
          exact ⟨rfl, Raised.mk' HM.out HT'.out (CMap.raised HC.out HV'.out (by rw [hA, hRR]; simp [addMax, encC] <;> omega))⟩
      · subst h1
        cases f
        · go_enter Try.func33, Try.ntmps33
          go_wp2_with (at_mapUpdate; refine wpList_vstore (val := .agg #[.int .i64 0, .int .i64 a, .bool true]) _ rfl _ _ _ 50 rfl law9 Try.underlying50 rfl (HV.out.alloc _) hc rfl rfl (key9 hs) ?_; intro w' hv' ht'; have HV' := hid hv'; have HT' := hid ht'; clear hv' ht')
          go_end0
          exact ⟨rfl, Raised.mk' HM.out HT'.out (CMap.raised HC.out HV'.out (by rw [hA, hRR]; simp [addMax, encC] <;> omega))⟩
        · go_enter Try.func33, Try.ntmps33
          go_wp2_with (at_mapUpdate; refine wpList_vstore (val := .agg #[.int .i64 a, .int .i64 a, .bool false]) _ rfl _ _ _ 50 rfl law9 Try.underlying50 rfl (HV.out.alloc _) hc rfl rfl (key9 hs) ?_; intro w' hv' ht'; have HV' := hid hv'; have HT' := hid ht'; clear hv' ht')
          go_end0
          exact ⟨rfl, Raised.mk' HM.out HT'.out (CMap.raised HC.out HV'.out (by rw [hA, hRR]; simp [addMax, encC] <;> omega))⟩
      · have h3 : ¬ a < p := by omega
        cases f
        · go_enter Try.func33, Try.ntmps33
          go_wp2_with (at_mapUpdate; refine wpList_vstore (val := .agg #[.int .i64 0, .int .i64 a, .bool true]) _ rfl _ _ _ 50 rfl law9 Try.underlying50 rfl (HV.out.alloc _) hc rfl rfl (key9 hs) ?_; intro w' hv' ht'; have HV' := hid hv'; have HT' := hid ht'; clear hv' ht')
          go_end0
          exact ⟨rfl, Raised.mk' HM.out HT'.out (CMap.raised HC.out HV'.out (by rw [hA, hRR]; simp [addMax, encC] <;> omega))⟩
        · go_enter Try.func33, Try.ntmps33
          go_wp2_with (at_mapUpdate; refine wpList_vstore (val := .agg #[.int .i64 p, .int .i64 a, .bool false]) _ rfl _ _ _ 50 rfl law9 Try.underlying50 rfl (HV.out.alloc _) hc rfl rfl (key9 hs) ?_; intro w' hv' ht'; have HV' := hid hv'; have HT' := hid ht'; clear hv' ht')
          go_end0
          exact ⟨rfl, Raised.mk' HM.out HT'.out (CMap.raised HC.out HV'.out (by rw [hA, hRR]; simp [addMax, encC] <;> omega))⟩
    | some r =>
      rw [hRR] at l1
      have l2 : (Instr.lookup 50 (.map (some M)) (.string it) true).run Try.prog w = .ok (.tuple #[.agg #[.int .i64 r, .int .i64 a, .bool false], .bool true]) w := l1
      clear l1
      rcases Int.lt_trichotomy a p with h1 | h1 | h1
      · cases f
        · go_enter Try.func33, Try.ntmps33
          go_wp2_with (at_mapUpdate; refine wpList_vstore (val := .agg #[.int .i64 r, .int .i64 p, .bool false]) _ rfl _ _ _ 50 rfl law9 Try.underlying50 rfl (HV.out.alloc _) hc rfl rfl (key9 hs) ?_; intro w' hv' ht'; have HV' := hid hv'; have HT' := hid ht'; clear hv' ht')
          go_end0
          exact ⟨rfl, Raised.mk' HM.out HT'.out (CMap.raised HC.out HV'.out (by rw [hA, hRR]; simp [addMax, encC] <;> omega))⟩
        · by_cases h2 : r < p
          · go_enter Try.func33, Try.ntmps33
            go_wp2_with (at_mapUpdate; refine wpList_vstore (val := .agg #[.int .i64 p, .int .i64 p, .bool false]) _ rfl _ _ _ 50 rfl law9 Try.underlying50 rfl (HV.out.alloc _) hc rfl rfl (key9 hs) ?_; intro w' hv' ht'; have HV' := hid hv'; have HT' := hid ht'; clear hv' ht')
            go_end0
            exact ⟨rfl, Raised.mk' HM.out HT'.out (CMap.raised HC.out HV'.out (by rw [hA, hRR]; simp [addMax, encC] <;> omega))⟩
          · go_enter Try.func33, Try.ntmps33
            go_wp2_with (at_mapUpdate; refine wpList_vstore (val := .agg #[.int .i64 r, .int .i64 p, .bool false]) _ rfl _ _ _ 50 rfl law9 Try.underlying50 rfl (HV.out.alloc _) hc rfl rfl (key9 hs) ?_; intro w' hv' ht'; have HV' := hid hv'; have HT' := hid ht'; clear hv' ht')
            go_end0
            exact ⟨rfl, Raised.mk' HM.out HT'.out (CMap.raised HC.out HV'.out (by rw [hA, hRR]; simp [addMax, encC] <;> omega))⟩
      · subst h1
        cases f
        · go_enter Try.func33, Try.ntmps33
          go_wp2_with (at_mapUpdate; refine wpList_vstore (val := .agg #[.int .i64 r, .int .i64 a, .bool false]) _ rfl _ _ _ 50 rfl law9 Try.underlying50 rfl (HV.out.alloc _) hc rfl rfl (key9 hs) ?_; intro w' hv' ht'; have HV' := hid hv'; have HT' := hid ht'; clear hv' ht')
          go_end0
          exact ⟨rfl, Raised.mk' HM.out HT'.out (CMap.raised HC.out HV'.out (by rw [hA, hRR]; simp [addMax, encC] <;> omega))⟩
        · by_cases h2 : r < a
          · go_enter Try.func33, Try.ntmps33
            go_wp2_with (at_mapUpdate; refine wpList_vstore (val := .agg #[.int .i64 a, .int .i64 a, .bool false]) _ rfl _ _ _ 50 rfl law9 Try.underlying50 rfl (HV.out.alloc _) hc rfl rfl (key9 hs) ?_; intro w' hv' ht'; have HV' := hid hv'; have HT' := hid ht'; clear hv' ht')
            go_end0
            exact ⟨rfl, Raised.mk' HM.out HT'.out (CMap.raised HC.out HV'.out (by rw [hA, hRR]; simp [addMax, encC] <;> omega))⟩
          · go_enter Try.func33, Try.ntmps33
            go_wp2_with (at_mapUpdate; refine wpList_vstore (val := .agg #[.int .i64 r, .int .i64 a, .bool false]) _ rfl _ _ _ 50 rfl law9 Try.underlying50 rfl (HV.out.alloc _) hc rfl rfl (key9 hs) ?_; intro w' hv' ht'; have HV' := hid hv'; have HT' := hid ht'; clear hv' ht')
            go_end0
            exact ⟨rfl, Raised.mk' HM.out HT'.out (CMap.raised HC.out HV'.out (by rw [hA, hRR]; simp [addMax, encC] <;> omega))⟩
      · have h3 : ¬ a < p := by omega
        cases f
        · go_enter Try.func33, Try.ntmps33
          go_wp2_with (at_mapUpdate; refine wpList_vstore (val := .agg #[.int .i64 r, .int .i64 a, .bool false]) _ rfl _ _ _ 50 rfl law9 Try.underlying50 rfl (HV.out.alloc _) hc rfl rfl (key9 hs) ?_; intro w' hv' ht'; have HV' := hid hv'; have HT' := hid ht'; clear hv' ht')
          go_end0
          exact ⟨rfl, Raised.mk' HM.out HT'.out (CMap.raised HC.out HV'.out (by rw [hA, hRR]; simp [addMax, encC] <;> omega))⟩
        · by_cases h2 : r < p
          · go_enter Try.func33, Try.ntmps33
            go_wp2_with (at_mapUpdate; refine wpList_vstore (val := .agg #[.int .i64 p, .int .i64 a, .bool false]) _ rfl _ _ _ 50 rfl law9 Try.underlying50 rfl (HV.out.alloc _) hc rfl rfl (key9 hs) ?_; intro w' hv' ht'; have HV' := hid hv'; have HT' := hid ht'; clear hv' ht')
            go_end0
            exact ⟨rfl, Raised.mk' HM.out HT'.out (CMap.raised HC.out HV'.out (by rw [hA, hRR]; simp [addMax, encC] <;> omega))⟩
          · go_enter Try.func33, Try.ntmps33
            go_wp2_with (at_mapUpdate; refine wpList_vstore (val := .agg #[.int .i64 r, .int .i64 a, .bool false]) _ rfl _ _ _ 50 rfl law9 Try.underlying50 rfl (HV.out.alloc _) hc rfl rfl (key9 hs) ?_; intro w' hv' ht'; have HV' := hid hv'; have HT' := hid ht'; clear hv' ht')
            go_end0
            exact ⟨rfl, Raised.mk' HM.out HT'.out (CMap.raised HC.out HV'.out (by rw [hA, hRR]; simp [addMax, encC] <;> omega))⟩

end Go.Proofs.Qxb6617267a
