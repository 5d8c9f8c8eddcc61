/-
  FnCeilingsWhole: the plain law; a declaration laid with rows of its own.
-/
import Derived.Test.Qxb6617267aMatches
import Derived.Test.Qxb6617267aClone
namespace Go.Proofs.Qxb6617267a
open Go.ChangeShapes Go.WideShapes Go.ChangeAt Go.RowKit
set_option linter.unusedVariables false
set_option linter.unusedSimpArgs false

/-! ### the plain law -/
def lastC (O : Nat → DcR) : Nat → Int → Option Nat
  | 0, _ => none
  | k + 1, t => if (O k).txn = t then some k else lastC O k t
def cntC (O : Nat → DcR) : Nat → Nat
  | 0 => 0
  | k + 1 => if (lastC O k (O k).txn).isSome then cntC O k else cntC O k + 1
theorem cntC_le (O : Nat → DcR) : ∀ k, cntC O k ≤ k
  | 0 => Nat.le_refl _
  | k + 1 => by have := cntC_le O k; rw [cntC]; split <;> omega
def lst (d : DcR) (f : Bool) : List ByteArray := if f then d.wd else d.rd
def prC (O : Nat → DcR) (k : Nat) (t : Int) : Int := match lastC O k t with | some b => (O b).prio | none => 0
def LC (O : Nat → DcR) (k : Nat) (x : Int × Bool) : List ByteArray := match lastC O k x.1 with | some b => lst (O b) x.2 | none => []

theorem lastC_spec (O : Nat → DcR) (t : Int) (b : Nat) : ∀ n, lastC O n t = some b → b < n ∧ (O b).txn = t
  | 0, h => by cases h
  | n + 1, h => by
    rw [lastC] at h
    split at h
    · rename_i e; cases h; exact ⟨by omega, e⟩
    · obtain ⟨h1, h2⟩ := lastC_spec O t b n h; exact ⟨by omega, h2⟩
theorem lastC_some (O : Nat → DcR) (j : Nat) : ∀ n, j < n → ∃ b, lastC O n (O j).txn = some b
  | 0, h => by omega
  | n + 1, h => by
    rw [lastC]
    split
    · exact ⟨n, rfl⟩
    · rename_i hne
      have : j ≠ n := fun e => hne (by rw [e])
      exact lastC_some O j n (by omega)

/-- The contributions of the first k declarations. -/
def dcX (O : Nat → DcR) (n k : Nat) (it : ByteArray) (p : Int) (f : Bool) : Prop := ∃ j, j < k ∧ lastC O n (O j).txn = some j ∧ p = (O j).prio ∧ it ∈ lst (O j) f

theorem dcX_decl {O : Nat → DcR} {n : Nat} {blk : Int → Option Nat} (hI : ∀ t, (blk t).isSome = (lastC O n t).isSome) (it : ByteArray) (p : Int) (f : Bool) :
    declX blk (prC O n) (LC O n) it p f ↔ dcX O n n it p f := by
  constructor
  · rintro ⟨t, h1, h2, h3⟩
    rw [hI] at h1
    obtain ⟨b, hb⟩ := Option.isSome_iff_exists.1 h1
    obtain ⟨hlt, ht⟩ := lastC_spec O t b n hb
    unfold prC at h2
    unfold LC at h3
    rw [hb] at h2
    simp only [hb] at h3
    exact ⟨b, hlt, by rw [ht]; exact hb, h2, h3⟩
  · rintro ⟨j, hj, hl, hp, hit⟩
    refine ⟨(O j).txn, by rw [hI, hl]; rfl, by unfold prC; rw [hl]; exact hp, ?_⟩
    unfold LC
    simp only [hl]
    exact hit

theorem dcX_idle {O : Nat → DcR} {n k : Nat} (h : ¬ lastC O n (O k).txn = some k) (it : ByteArray) (p : Int) (f : Bool) : dcX O n k it p f ↔ dcX O n (k + 1) it p f := by
  constructor
  · rintro ⟨j, hj, r⟩; exact ⟨j, by omega, r⟩
  · rintro ⟨j, hj, r⟩
    by_cases e : j = k
    · subst e; exact absurd r.1 h
    · exact ⟨j, by omega, r⟩

theorem dcX_step {O : Nat → DcR} {n k : Nat} (h : lastC O n (O k).txn = some k) (it : ByteArray) (p : Int) (f : Bool) :
    moreX (moreX (dcX O n k) (O k).prio false (O k).rd (O k).rd.length) (O k).prio true (O k).wd (O k).wd.length it p f ↔ dcX O n (k + 1) it p f := by
  unfold moreX
  rw [List.take_length, List.take_length]
  constructor
  · rintro ((⟨j, hj, r⟩ | ⟨h1, h2, h3⟩) | ⟨h1, h2, h3⟩)
    · exact ⟨j, by omega, r⟩
    · subst h2; exact ⟨k, by omega, h, h1, h3⟩
    · subst h2; exact ⟨k, by omega, h, h1, h3⟩
  · rintro ⟨j, hj, h1, h2, h3⟩
    by_cases e : j = k
    · subst e
      cases f
      · exact Or.inl (Or.inr ⟨h2, rfl, h3⟩)
      · exact Or.inr ⟨h2, rfl, h3⟩
    · exact Or.inl (Or.inl ⟨j, by omega, h1, h2, h3⟩)

/-! ### a declaration with rows of its own -/
theorem RowS.base {w : World} {B B' : Nat} {v : Value} {l : List ByteArray} (h : RowS w B' v l) (hB : B ≤ B') : RowS w B v l := by
  obtain ⟨h1, h2⟩ := h
  refine ⟨h1, ?_⟩
  rcases h2 with h2 | ⟨g, cap, cur, e, hb, r⟩
  · exact Or.inl h2
  · exact Or.inr ⟨g, cap, cur, e, by omega, r⟩

/-- Two rows laid behind all that was there. -/
structure Two (w W : World) (v : Bool → Value) (l : Bool → List ByteArray) : Prop where
  below : Below w.heap.size w W
  rows : ∀ f, RowS W w.heap.size (v f) (l f)
  apart : ∀ g, (v false).ownBlock = some g → (v true).ownBlock = some g → False

theorem Two.mk1 {w W W2 : World} {v : Bool → Value} {l : Bool → List ByteArray} (f : Bool) (h1 : Below w.heap.size w W) (hr : RowS W w.heap.size (v f) (l f)) (h2 : Below W.heap.size W W2) (hr2 : RowS W2 W.heap.size (v (!f)) (l (!f))) : Two w W2 v l := by
  have hs := h1.size
  have hrf : RowS W2 w.heap.size (v f) (l f) := hr.congr (fun g hg => by obtain ⟨_, cur, hc⟩ := hr.block hg; exact h2.block g (lt_of_heap hc))
  have hrn : RowS W2 w.heap.size (v (!f)) (l (!f)) := hr2.base hs
  refine ⟨h1.trans (h2.mono hs), fun f' => ?_, fun g hg hg' => ?_⟩
  · cases f <;> cases f' <;> assumption
  · cases f
    · obtain ⟨_, cur, hc⟩ := hr.block hg
      have := lt_of_heap hc
      have := (hr2.block hg').1
      omega
    · obtain ⟨_, cur, hc⟩ := hr.block hg'
      have := lt_of_heap hc
      have := (hr2.block hg).1
      omega

/-- Behind 'ds[t] = ZZNewDeclaration(p, clone, clone)'. -/
theorem Decls.laid {w W w2 : World} {B M cnt : Nat} {blk : Int → Option Nat} {pr : Int → Int} {V : Int × Bool → Value} {L : Int × Bool → List ByteArray} (h : Decls w B M cnt blk pr V L) (hB : B ≤ w.heap.size) {F : Lit → Option Value}
    (hF : ∀ t, F (uk t) = (blk t).map (fun b => .pointer (some ⟨b, 0, none⟩))) (hM : VMap Try.prog 38 w M cnt F) (t p : Int) {v : Bool → Value} {l : Bool → List ByteArray} (h2 : Two w W v l)
    (hv : VMap Try.prog 38 w2 M (grow (F (uk t)) cnt) (upd F (uk t) (.pointer (some ⟨W.heap.size, 0, none⟩)))) (ht : (W.alloc (.cells #[.int .i64 p, v false, v true] 62)).mapTurned w2 M) :
    Decls w2 B M (grow (F (uk t)) cnt) (fun x => if x = t then some W.heap.size else blk x) (fun x => if x = t then p else pr x) (fun y => if y.1 = t then v y.2 else V y) (fun y => if y.1 = t then l y.2 else L y) := by
  have hMlt := hM.lt
  have hWs := h2.below.size
  obtain ⟨es, cl, hMm⟩ := hM.isMap
  have hWM : W.heap[M]? = some (.map es cl) := (h2.below.block M hMlt).trans hMm
  have hblkW : ∀ g, g < W.heap.size → g ≠ M → w2.heap[g]? = W.heap[g]? := fun g hg hne => by
    rw [(turned_block ht).2 g hne]
    exact Below.heap_alloc W _ g hg
  have hblk : ∀ g, g < w.heap.size → g ≠ M → w2.heap[g]? = w.heap[g]? := fun g hg hne => (hblkW g (by omega) hne).trans (h2.below.block g hg)
  have hne : ∀ (g : Nat) (C : Array Value) (ty : TypeId) (fr : Nat × Nat), w.heap[g]? = some (.cells C ty fr) → g ≠ M := fun g C ty fr hg e => by
    rw [e, hMm] at hg; cases hg
  have hneW : ∀ (g : Nat) (C : Array Value) (ty : TypeId) (fr : Nat × Nat), W.heap[g]? = some (.cells C ty fr) → g ≠ M := fun g C ty fr hg e => by
    rw [e, hWM] at hg; cases hg
  have oldrow : ∀ y, RowS w2 B (V y) (L y) := fun y => (h.fam.rows y).congr (fun g hg => by obtain ⟨_, cur, hc⟩ := (h.fam.rows y).block hg; exact hblk g (lt_of_heap hc) (hne g _ _ _ hc))
  have newrow : ∀ f, RowS w2 B (v f) (l f) := fun f => ((h2.rows f).congr (fun g hg => by obtain ⟨_, cur, hc⟩ := (h2.rows f).block hg; exact hblkW g (lt_of_heap hc) (hneW g _ _ _ hc))).base hB
  have far : ∀ y f g, (V y).ownBlock = some g → (v f).ownBlock = some g → False := fun y f g h1 h3 => by
    obtain ⟨_, cur, hc⟩ := (h.fam.rows y).block h1
    have a1 := lt_of_heap hc
    have a2 := ((h2.rows f).block h3).1
    omega
  refine ⟨h.MB, ⟨_, hv, fun x => ?_⟩, fun x b hb => ?_, fun x y b hx hy => ?_, ⟨fun y => ?_, fun y z g hy hz => ?_⟩⟩
  · rw [upd_uk]
    by_cases e : x = t
    · simp [e]
    · simp [e, hF]
  · by_cases e : x = t
    · subst e
      simp only [if_pos] at hb
      cases hb
      refine ⟨by omega, ?_⟩
      rw [(turned_block ht).2 _ (by omega), (MapKept.heap_alloc W _).1]
      simp
    · simp only [if_neg e] at hb
      obtain ⟨h1, h3⟩ := h.cell x b hb
      refine ⟨h1, ?_⟩
      rw [hblk b (lt_of_heap h3) (hne b _ _ _ h3), h3]
      simp [e]
  · have key : ∀ z, blk z = some W.heap.size → False := fun z hz => by
      have := lt_of_heap (h.cell z _ hz).2
      omega
    by_cases e : x = t <;> by_cases e' : y = t
    · rw [e, e']
    · simp only [if_pos e, if_neg e'] at hx hy
      cases hx; exact (key _ hy).elim
    · simp only [if_neg e, if_pos e'] at hx hy
      cases hy; exact (key _ hx).elim
    · simp only [if_neg e, if_neg e'] at hx hy
      exact h.inj x y b hx hy
  · by_cases e : y.1 = t
    · simp only [if_pos e]; exact newrow y.2
    · simp only [if_neg e]; exact oldrow y
  · obtain ⟨y1, y2⟩ := y
    obtain ⟨z1, z2⟩ := z
    by_cases e : y1 = t <;> by_cases e' : z1 = t
    · simp only [if_pos e, if_pos e'] at hy hz
      subst e; subst e'
      cases y2 <;> cases z2
      · rfl
      · exact (h2.apart g hy hz).elim
      · exact (h2.apart g hz hy).elim
      · rfl
    · simp only [if_pos e, if_neg e'] at hy hz
      exact (far _ _ _ hz hy).elim
    · simp only [if_neg e, if_pos e'] at hy hz
      exact (far _ _ _ hy hz).elim
    · simp only [if_neg e, if_neg e'] at hy hz
      exact h.fam.apart _ _ g hy hz

/-- The first loop's head. -/
structure DclR (w : World) (n : Nat) (O : Nat → DcR) (k : Nat) (i : Value) (wr : World) : Prop where
  le : k ≤ n
  i : i = .int .i64 k
  below : Below w.heap.size w wr
  decls : ∃ blk V, Decls wr w.heap.size w.heap.size (cntC O k) blk (prC O k) V (LC O k) ∧ ∀ t, (blk t).isSome = (lastC O k t).isSome

theorem DclR.start (w : World) (n : Nat) (O : Nat → DcR) : DclR w n O 0 (.int .i64 0) (w.alloc (.map #[] 0)) :=
  ⟨Nat.zero_le _, rfl, (Below.refl _ _).alloc (Nat.le_refl _) _, fun _ => none, fun _ => .slice none 0 0,
    ⟨Nat.le_refl _, ⟨fun _ => none, VMap.made Try.prog 38 w, fun t => rfl⟩, fun t b h => (by cases h), fun t t' b h => (by cases h), Fam.start _ _⟩, fun t => rfl⟩

theorem DclR.laid {w : World} {n : Nat} {O : Nat → DcR} {k : Nat} {wr wx : World} {blk : Int → Option Nat} {V : Int × Bool → Value} {F : Lit → Option Value} (hlt : k < n) (hI : ∀ t, (blk t).isSome = (lastC O k t).isSome)
    (hF : ∀ t, F (uk t) = (blk t).map (fun b => .pointer (some ⟨b, 0, none⟩))) (hb : Below w.heap.size w wx) {b : Nat} {v : Bool → Value}
    (hD : Decls wx w.heap.size w.heap.size (grow (F (uk (O k).txn)) (cntC O k)) (fun x => if x = (O k).txn then some b else blk x) (fun x => if x = (O k).txn then (O k).prio else prC O k x) (fun y => if y.1 = (O k).txn then v y.2 else V y) (fun y => if y.1 = (O k).txn then lst (O k) y.2 else LC O k y)) :
    DclR w n O (k + 1) (.int .i64 ((k : Int) + 1)) wx := by
  refine ⟨by omega, by go_num, hb, _, _, Decls.ext hD ?_ (fun t ht => ?_) (fun x => ?_), fun t => ?_⟩
  · rw [cntC, hF, ← hI]
    unfold grow
    cases blk (O k).txn <;> rfl
  · unfold prC
    rw [lastC]
    by_cases e : t = (O k).txn
    · rw [if_pos e, if_pos e.symm]
    · rw [if_neg e, if_neg (fun h => e h.symm)]
  · unfold LC
    rw [lastC]
    by_cases e : x.1 = (O k).txn
    · rw [if_pos e, if_pos e.symm]
    · rw [if_neg e, if_neg (fun h => e h.symm)]
  · rw [lastC]
    by_cases e : t = (O k).txn
    · rw [if_pos e, if_pos e.symm]; rfl
    · rw [if_neg e, if_neg (fun h => e h.symm)]; exact hI t

end Go.Proofs.Qxb6617267a
