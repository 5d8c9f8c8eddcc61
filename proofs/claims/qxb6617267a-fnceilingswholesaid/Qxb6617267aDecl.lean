/-
  declarations: its contract.
-/
import Derived.Test.Qxb6617267aFam
import Derived.Deep.RegionLaw
namespace Go.Proofs.Qxb6617267a
open Go.ChangeShapes Go.WideShapes Go.ChangeAt Go.RowKit
set_option linter.unusedVariables false

def kindOf (f : Bool) : Int := if f then 3 else 2
theorem kindOf_inj {f g : Bool} (h : kindOf f = kindOf g) : f = g := by cases f <;> cases g <;> first | rfl | exact absurd h (by decide)

/-- The items of the transaction t's reads (f false) or writes (f true) since its last declaring begin, among the first k operations. -/
def itemsD (O : Nat → OpR) (all f : Bool) : Nat → Int → List ByteArray
  | 0, _ => []
  | k + 1, t => if (O k).txn = t then (if isDecl all (O k) = true then [] else if (O k).kind = kindOf f ∧ (lastD O all k t).isSome = true then itemsD O all f k t ++ [(O k).item] else itemsD O all f k t) else itemsD O all f k t

def prD (O : Nat → OpR) (all : Bool) (k : Nat) (t : Int) : Int := match lastD O all k t with | some b => (O b).prio | none => 0
def LD (O : Nat → OpR) (all : Bool) (k : Nat) (x : Int × Bool) : List ByteArray := itemsD O all x.2 k x.1

theorem itemsD_len (O : Nat → OpR) (all f : Bool) (t : Int) : ∀ k, (itemsD O all f k t).length ≤ k
  | 0 => Nat.le_refl _
  | k + 1 => by
    have := itemsD_len O all f t k
    unfold itemsD
    split
    · split
      · simp
      · split
        · simp; exact this
        · omega
    · omega

theorem Decls.ext {w : World} {B M cnt cnt' : Nat} {blk : Int → Option Nat} {pr pr' : Int → Int} {V : Int × Bool → Value} {L L' : Int × Bool → List ByteArray} (h : Decls w B M cnt blk pr V L) (hc : cnt = cnt') (hp : ∀ t, (blk t).isSome = true → pr t = pr' t) (hL : ∀ x, L x = L' x) : Decls w B M cnt' blk pr' V L' := by
  have e : L = L' := funext hL
  subst e hc
  refine ⟨h.MB, h.map, fun t b hb => ?_, h.inj, h.fam⟩
  rw [← hp t (by rw [hb]; rfl)]
  exact h.cell t b hb

/-- Behind 'ds[t] = &declaration{priority: p}'. -/
theorem Decls.declare {w w2 : World} {B M cnt : Nat} {blk : Int → Option Nat} {pr : Int → Int} {V : Int × Bool → Value} {L : Int × Bool → List ByteArray} (h : Decls w B M cnt blk pr V L) (hB : B ≤ w.heap.size) {F : Lit → Option Value}
    (hF : ∀ t, F (uk t) = (blk t).map (fun b => .pointer (some ⟨b, 0, none⟩))) (hM : VMap Try.prog 38 w M cnt F) (t p : Int) {w1 : World} (hw1 : w1.heap = (w.alloc (.cells #[.int .i64 p, .slice none 0 0, .slice none 0 0] 62)).heap)
    (hv : VMap Try.prog 38 w2 M (grow (F (uk t)) cnt) (upd F (uk t) (.pointer (some ⟨w.heap.size, 0, none⟩)))) (ht : w1.mapTurned w2 M) :
    Decls w2 B M (grow (F (uk t)) cnt) (fun x => if x = t then some w.heap.size else blk x) (fun x => if x = t then p else pr x) (fun y => if decide (y.1 = t) then .slice none 0 0 else V y) (fun y => if decide (y.1 = t) then [] else L y) := by
  have hMlt := hM.lt
  obtain ⟨es, cl, hMm⟩ := hM.isMap
  have hblk : ∀ g, g < w.heap.size → g ≠ M → w2.heap[g]? = w.heap[g]? := fun g hg hne => by
    rw [(turned_block ht).2 g hne, hw1]
    exact Below.heap_alloc w _ g hg
  have hne : ∀ (g : Nat) (C : Array Value) (ty : TypeId) (fr : Nat × Nat), w.heap[g]? = some (.cells C ty fr) → g ≠ M := fun g C ty fr hg e => by
    rw [e, hMm] at hg; cases hg
  refine ⟨h.MB, ⟨_, hv, fun x => ?_⟩, fun x b hb => ?_, fun x y b hx hy => ?_, (h.fam.reset (fun y => decide (y.1 = t))).congr (fun g cur hg => hblk g (lt_of_heap hg) (hne g _ _ _ hg))⟩
  · rw [upd_uk]
    by_cases e : x = t
    · simp [e]
    · simp [e, hF]
  · by_cases e : x = t
    · subst e
      simp only [if_pos] at hb
      cases hb
      refine ⟨hB, ?_⟩
      rw [(turned_block ht).2 _ (by omega), hw1, (MapKept.heap_alloc w _).1]
      simp
    · simp only [if_neg e] at hb
      obtain ⟨h1, h2⟩ := h.cell x b hb
      refine ⟨h1, ?_⟩
      rw [hblk b (lt_of_heap h2) (hne b _ _ _ h2), h2]
      simp [e]
  · have key : ∀ z, blk z = some w.heap.size → False := fun z hz => by
      have := lt_of_heap (h.cell z _ hz).2
      omega
    by_cases e : x = t <;> by_cases e' : y = t
    · rw [e, e']
    · simp only [if_pos e, if_neg e'] at hx hy
      cases hx; exact (key _ hy).elim
    · simp only [if_neg e, if_pos e'] at hx hy
      cases hy; exact (key _ hx).elim
    · simp only [if_neg e, if_neg e'] at hx hy
      exact h.inj x y b hx hy

theorem setCell_block {w : World} {b i : Nat} {C : Array Value} {t : TypeId} {fr : Nat × Nat} (h : w.heap[b]? = some (.cells C t fr)) (v : Value) : (w.setCell ⟨b, i, none⟩ v).heap[b]? = some (.cells (C.setIfInBounds i v) t fr) := by
  simp [World.setCell, Array.getElem?_modify, h]

/-- Behind 'd.locks.Read = append(d.locks.Read, s)' (f false), or the like for Write. -/
theorem Decls.appended {w W w1 : World} {B M cnt : Nat} {blk : Int → Option Nat} {pr : Int → Int} {V : Int × Bool → Value} {L : Int × Bool → List ByteArray} (h : Decls w B M cnt blk pr V L) {t : Int} (f : Bool) {b : Nat} (hb : blk t = some b) {s : ByteArray} {C : Array Value} {g cap : Nat}
    (hW : W.heap = (w.alloc (.cells C 9)).heap)
    (hown : w1.ownsRow B 9 1 (.slice (some ⟨g, 0, none⟩) ((L (t, f)).length + 1) cap) ((L (t, f)).length + 1) ((L (t, f)).map Value.string ++ [.string s])) (hg : W.grownBy w1 (V (t, f)).ownBlock) (hat : (V (t, f)).ownBlock = some g ∨ g = w.heap.size + 1) :
    Decls (w1.setCell ⟨b, if f then 2 else 1, none⟩ (.slice (some ⟨g, 0, none⟩) ((L (t, f)).length + 1) cap)) B M cnt blk pr
      (fun y => if y = (t, f) then .slice (some ⟨g, 0, none⟩) ((L (t, f)).length + 1) cap else V y) (fun y => if y = (t, f) then L (t, f) ++ [s] else L y) := by
  have hsz : W.heap.size = w.heap.size + 1 := by rw [hW]; simp
  have hWold : ∀ k, k < w.heap.size → W.heap[k]? = w.heap[k]? := fun k hk => by rw [hW]; exact Below.heap_alloc w _ k hk
  have hD : Decls W B M cnt blk pr V L := by
    obtain ⟨F, hv, _⟩ := h.map
    exact h.congr (hWold M hv.lt) (fun k cur ty _ hk => hWold k (lt_of_heap hk))
  have hrow : ∀ k, (V (t, f)).ownBlock = some k → ∃ cur, W.heap[k]? = some (.cells cur 9 (0, 0)) := fun k hk => ((hD.fam.rows (t, f)).block hk).2
  have keep62 : ∀ (k : Nat) (C' : Array Value), W.heap[k]? = some (.cells C' 62 (0, 0)) → w1.heap[k]? = W.heap[k]? := fun k C' hk => hg.block k (lt_of_heap hk) (fun e => by
    obtain ⟨cur, hc⟩ := hrow k e.symm
    rw [hk] at hc; cases hc)
  obtain ⟨F, hv, hF⟩ := hD.map
  obtain ⟨es, cl, hMm⟩ := hv.isMap
  have hbW := (hD.cell t b hb).2
  have hb1 : w1.heap[b]? = some (.cells #[.int .i64 (pr t), V (t, false), V (t, true)] 62) := (keep62 b _ hbW).trans hbW
  have hM1 : w1.heap[M]? = some (.map es cl) := by
    rw [hg.block M hv.lt (fun e => by obtain ⟨cur, hc⟩ := hrow M e.symm; rw [hMm] at hc; cases hc), hMm]
  have hMb : M ≠ b := fun e => by rw [e, hb1] at hM1; cases hM1
  have fam1 := hD.fam.appended (t, f) hown hg hat (by omega)
  refine ⟨h.MB, ⟨F, hv.congr (by rw [Below.heap_setCell _ _ _ _ hMb, hM1, hMm]), hF⟩, fun x c hx => ?_, h.inj, fam1.congr (fun k cur hk => ?_)⟩
  · obtain ⟨hcB, hcW⟩ := hD.cell x c hx
    refine ⟨hcB, ?_⟩
    by_cases e : x = t
    · subst e
      rw [hb] at hx
      cases hx
      rw [setCell_block hb1]
      cases f <;> simp
    · have hne : c ≠ b := fun ec => e (h.inj x t b (ec ▸ hx) hb)
      rw [Below.heap_setCell _ _ _ _ hne, keep62 c _ hcW, hcW]
      simp [e]
  · exact Below.heap_setCell _ _ _ _ (fun e => by rw [e, hb1] at hk; cases hk)

theorem law38 : Maps.Keyed Try.prog 38 := Maps.int_keyed Try.underlying38
theorem key38 {t : Int} (h : (Lit.int .u64 t).wf = true) : keyOf Try.prog 38 (.int .u64 t) = some (uk t) := Maps.keyOf_int_mk Try.underlying38 h
theorem zero37 (w : World) : (zeroValue 37).run Try.prog w = .ok (.pointer none) w := by kernel_rfl
theorem info9 : (Try.prog.info? 9).map (fun i => (i.zero, i.size, i.bytes)) = some (some (.string ByteArray.empty), 1, 16) := by kernel_rfl

/-- The loop's head. -/
structure DeclR (w : World) (n : Nat) (O : Nat → OpR) (all : Bool) (k : Nat) (i : Value) (wr : World) : Prop where
  le : k ≤ n
  i : i = .int .i64 k
  below : Below w.heap.size w wr
  decls : ∃ blk V, Decls wr w.heap.size w.heap.size (cntD O all k) blk (prD O all k) V (LD O all k) ∧ ∀ t, (blk t).isSome = (lastD O all k t).isSome

theorem Decls.start (w : World) (O : Nat → OpR) (all : Bool) : Decls (w.alloc (.map #[] 0)) w.heap.size w.heap.size (cntD O all 0) (fun _ => none) (prD O all 0) (fun _ => .slice none 0 0) (LD O all 0) :=
  ⟨Nat.le_refl _, ⟨_, VMap.made Try.prog 38 w, fun t => rfl⟩, (fun t b h => by cases h), (fun t t' b h => by cases h), Fam.start _ _⟩

/-- An operation that turns nothing. -/
theorem DeclR.idle {w : World} {n : Nat} {O : Nat → OpR} {all : Bool} {k : Nat} {i : Value} {wr wx : World} (h : DeclR w n O all k i wr) (hlt : k < n) (hw : wx.heap = wr.heap) (hb : Below w.heap.size w wx) (hd : isDecl all (O k) = false)
    (hn : ∀ f, ¬ ((O k).kind = kindOf f ∧ (lastD O all k (O k).txn).isSome = true)) : DeclR w n O all (k + 1) (.int .i64 ((k : Int) + 1)) wx := by
  obtain ⟨hk, _, hbel, blk, V, hD, hI⟩ := h
  have hl : ∀ t, lastD O all (k + 1) t = lastD O all k t := fun t => by rw [lastD, hd]; simp
  refine ⟨by omega, by go_num, hb, blk, V, ?_, fun t => by rw [hl]; exact hI t⟩
  refine Decls.ext (hD.congr (by rw [hw]) (fun g cur t _ _ => by rw [hw])) ?_ (fun t _ => ?_) (fun x => ?_)
  · rw [cntD, hd]; simp
  · unfold prD; rw [hl]
  · unfold LD
    rw [itemsD, hd]
    by_cases e : (O k).txn = x.1
    · rw [if_pos e, if_neg (by simp), if_neg (by rw [← e]; exact hn x.2)]
    · rw [if_neg e]

theorem DeclR.declared {w : World} {n : Nat} {O : Nat → OpR} {all : Bool} {k : Nat} {wr wx : World} {blk : Int → Option Nat} {V : Int × Bool → Value} {F : Lit → Option Value} (hlt : k < n) (hI : ∀ t, (blk t).isSome = (lastD O all k t).isSome)
    (hF : ∀ t, F (uk t) = (blk t).map (fun b => .pointer (some ⟨b, 0, none⟩))) (hd : isDecl all (O k) = true) (hb : Below w.heap.size w wx) {c b : Nat}
    (hD : Decls wx w.heap.size w.heap.size (grow (F (uk (O k).txn)) (cntD O all k)) (fun x => if x = (O k).txn then some b else blk x) (fun x => if x = (O k).txn then (O k).prio else prD O all k x) (fun y => if decide (y.1 = (O k).txn) then .slice none 0 0 else V y) (fun y => if decide (y.1 = (O k).txn) then [] else LD O all k y)) :
    DeclR w n O all (k + 1) (.int .i64 ((k : Int) + 1)) wx := by
  refine ⟨by omega, by go_num, hb, _, _, Decls.ext hD ?_ (fun t ht => ?_) (fun x => ?_), fun t => ?_⟩
  · rw [cntD, if_pos hd, hF, ← hI]
    unfold grow
    cases blk (O k).txn <;> rfl
  · unfold prD
    rw [lastD]
    by_cases e : t = (O k).txn
    · rw [if_pos e, if_pos ⟨hd, e.symm⟩]
    · rw [if_neg e, if_neg (fun h => e h.2.symm)]
  · unfold LD
    rw [itemsD]
    by_cases e : x.1 = (O k).txn
    · rw [if_pos (by simpa using e), if_pos e.symm, if_pos hd]
    · rw [if_neg (by simpa using e), if_neg (fun h => e h.symm)]
  · rw [lastD]
    by_cases e : t = (O k).txn
    · rw [if_pos e, if_pos ⟨hd, e.symm⟩]; rfl
    · rw [if_neg e, if_neg (fun h => e h.2.symm)]; exact hI t

theorem DeclR.grown {w : World} {n : Nat} {O : Nat → OpR} {all : Bool} {k : Nat} {wx : World} {blk : Int → Option Nat} {V : Int × Bool → Value} (f : Bool) (hlt : k < n) (hI : ∀ t, (blk t).isSome = (lastD O all k t).isSome) (hb : Below w.heap.size w wx)
    (hd : isDecl all (O k) = false) (hk : (O k).kind = kindOf f) (hs : (lastD O all k (O k).txn).isSome = true)
    (hD : Decls wx w.heap.size w.heap.size (cntD O all k) blk (prD O all k) V (fun y => if y = ((O k).txn, f) then LD O all k ((O k).txn, f) ++ [(O k).item] else LD O all k y)) :
    DeclR w n O all (k + 1) (.int .i64 ((k : Int) + 1)) wx := by
  have hl : ∀ t, lastD O all (k + 1) t = lastD O all k t := fun t => by rw [lastD, hd]; simp
  refine ⟨by omega, by go_num, hb, _, _, Decls.ext hD ?_ (fun t ht => ?_) (fun x => ?_), fun t => by rw [hl]; exact hI t⟩
  · rw [cntD, hd]; simp
  · unfold prD; rw [hl]
  · obtain ⟨t, f'⟩ := x
    show (if (t, f') = ((O k).txn, f) then itemsD O all f k (O k).txn ++ [(O k).item] else itemsD O all f' k t) = itemsD O all f' (k + 1) t
    rw [itemsD, hd]
    by_cases e : (O k).txn = t
    · subst e
      rw [if_pos (c := (O k).txn = (O k).txn) rfl, if_neg (c := false = true) (by simp)]
      by_cases ef : f' = f
      · subst ef
        rw [if_pos rfl, if_pos ⟨hk, hs⟩]
      · rw [if_neg (fun h => ef (by cases h; rfl)), if_neg (fun h => ef (kindOf_inj (h.1.symm.trans hk)))]
    · rw [if_neg (fun h => e (by cases h; rfl)), if_neg e]

set_option maxRecDepth 100000 in
set_option maxHeartbeats 4000000 in
theorem declarations_any (a : Option Addr) (n c : Nat) (O : Nat → OpR) (all : Bool) (w : World) (hS : IsOps w a n O) (hn : n ≤ 16384) :
    Calls Try.prog 28 #[.slice a n c, .bool all] w fun e w' => ∃ blk V, e = .returned (.map (some w.heap.size)) ∧ Below w.heap.size w w' ∧ Decls w' w.heap.size w.heap.size (cntD O all n) blk (prD O all n) V (LD O all n) ∧ ∀ t, (blk t).isSome = (lastD O all n t).isSome := by
  have HC := hid hS.2
  clear hS
  have hmm := @run_makeMap Try.prog
  go_enter Try.func28, Try.ntmps28
  go_wp2_with fail
  go_loopg [12] n (fun g i wr => ∃ k, g = n - k ∧ DeclR w n O all k i wr)
  case atStart => exact ⟨0, rfl, Nat.zero_le _, rfl, (Below.refl _ _).alloc (Nat.le_refl _) _, _, _, Decls.start w O all, fun t => rfl⟩
  case round =>
    obtain ⟨k, hg, hrel⟩ := hrel
    have HREL := hid hrel
    obtain ⟨hk, rfl, hbel, blk, V, hD, hI⟩ := hrel
    have HG := hid hg
    have HB := hid hbel
    have HD := hid hD
    have HI := hid hI
    clear hg hbel hD hI hmm
    by_cases hlt : k < n
    · obtain ⟨b, off, rfl, hb, hat, hok⟩ := HC.out k hlt
      obtain ⟨q0, q1, q2, q3, q4, q5, q6⟩ := hat.below HB.out hb
      obtain ⟨_, hit, ht, _⟩ := hok
      have HT := hid ht
      have HIT := hid hit
      clear hat ht hit
      have hBs : w.heap.size ≤ wr.heap.size := HB.out.size
      have hbw : b < wr.heap.size := by omega
      cases hk1 : ((O k).kind == 1)
      · have HDE : Hid (isDecl all (O k) = false) := by unfold Hid isDecl; rw [hk1]; rfl
        obtain ⟨F, hv, hF⟩ := HD.out.map
        have l1 := hv.look law38 Try.underlying25 (zero37 wr) (key38 HT.out)
        rw [hF] at l1
        have hIt := HI.out (O k).txn
        cases hbk : blk (O k).txn with
        | none =>
          rw [hbk] at l1 hIt
          simp only [Option.map_none, Option.getD_none] at l1
          have HIT2 := hid hIt
          clear hv hF hbk hIt
          go_wp2_with fail
          go_roundg (n - (k + 1))
          case measure => rw [HG.out]; omega
          case rel => exact ⟨k + 1, rfl, HREL.out.idle hlt rfl HB.out HDE.out (fun f h => by have h2 := h.2; rw [← HIT2.out] at h2; cases h2)⟩
        | some db =>
          rw [hbk] at l1 hIt
          simp only [Option.map_some, Option.getD_some] at l1
          have HS : Hid ((lastD O all k (O k).txn).isSome = true) := hIt.symm
          have HBL := hid hbk
          obtain ⟨hdB, hdc⟩ := HD.out.cell _ _ hbk
          have HDB := hid hdB
          have hdlt := lt_of_heap hdc
          have hc1 : wr.cell? ⟨db, 1, none⟩ = some (V ((O k).txn, false)) := by simp [World.cell?, hdc]
          have hc2 : wr.cell? ⟨db, 2, none⟩ = some (V ((O k).txn, true)) := by simp [World.cell?, hdc]
          have HLEN : Hid (∀ f, (LD O all k ((O k).txn, f)).length ≤ k) := fun f => itemsD_len O all f (O k).txn k
          obtain ⟨i0, hi0, hz0, hz1, hz2⟩ := info_parts info9
          have HDC := hid hdc
          clear hv hF hbk hIt hdB hdc
          cases hk2 : ((O k).kind == 2)
          · cases hk3 : ((O k).kind == 3)
            · go_wp2_with fail
              go_roundg (n - (k + 1))
              case measure => rw [HG.out]; omega
              case rel =>
                refine ⟨k + 1, rfl, HREL.out.idle hlt rfl HB.out HDE.out (fun f h => ?_)⟩
                have h1 := h.1
                cases f
                · rw [h1] at hk2; cases hk2
                · rw [h1] at hk3; cases hk3
            · have HKF : Hid ((O k).kind = kindOf true) := by simpa [Hid, kindOf] using hk3
              have HROW : Hid ((wr.alloc (.cells #[.string (O k).item] 9)).drew.ownsRow w.heap.size 9 1 (V ((O k).txn, true)) (LD O all k ((O k).txn, true)).length ((LD O all k ((O k).txn, true)).map Value.string)) := World.ownsRow.alloc (HD.out.fam.rows ((O k).txn, true)) _
              have H63 : Hid ((LD O all k ((O k).txn, true)).length + 1 ≤ maxLen) := by have := HLEN.out true; unfold Hid maxLen; omega
              have HBY : Hid (((LD O all k ((O k).txn, true)).length + 1) * 16 ≤ 140737488355328) := by have := HLEN.out true; unfold Hid; omega
              have HRB : Hid (∀ j, (V ((O k).txn, true)).ownBlock = some j → w.heap.size ≤ j) := fun j hj => ((HD.out.fam.rows ((O k).txn, true)).block hj).1
              have HNE : Hid (some db ≠ (V ((O k).txn, true)).ownBlock) := fun e => by obtain ⟨_, cur, hcc⟩ := (HD.out.fam.rows ((O k).txn, true)).block e.symm; rw [HDC.out] at hcc; cases hcc
              have HFAR : Hid (∀ w1 : World, (wr.alloc (.cells #[.string (O k).item] 9)).drew.grownBy w1 (V ((O k).txn, true)).ownBlock → w1.cell? ⟨db, 2, none⟩ = some (V ((O k).txn, true))) := fun w1 hg => by rw [hg.cell_far _ (by simp; omega) HNE.out]; rw [World.cell?_drew, World.cell?_alloc_past _ _ _ hdlt]; exact hc2
              have HFRZ : Hid (∀ w1 : World, (wr.alloc (.cells #[.string (O k).item] 9)).drew.grownBy w1 (V ((O k).txn, true)).ownBlock → w1.frozen? ⟨db, 2, none⟩ = false) := fun w1 hg => by
                rw [hg.frozen_far _ (by simp; omega) HNE.out]
                have hh : (wr.alloc (.cells #[.string (O k).item] 9)).drew.heap[db]? = wr.heap[db]? := Below.heap_alloc wr _ db hdlt
                simp [World.frozen?, hh, HDC.out]
              go_wp2_with fail
              go_region_law ((refine step_append_lies _ (by rfl) _ _ _ (by rfl) w.heap.size 9 i0 _ 1 16 Try.underlying36 hi0 hz0 hz1 hz2 rfl (by omega) (V ((O k).txn, true)) (LD O all k ((O k).txn, true)).length ((LD O all k ((O k).txn, true)).map Value.string) (by rfl) HROW.out ⟨wr.heap.size, 0, none⟩ 1 1 [.string (O k).item] (by rfl) (by rfl) (World.news_of_block (cs := #[.string (O k).item]) (t := 9) (fr := (0, 0)) (heap_alloc_new wr _)) (by simp [Value.oneCell']) (by omega) H63.out HBY.out (by simp; omega) (wr.heap.size + 1) (by simp) ?_; intro g cap w1 hown hgrow hatg hltg; have hd1 := HFAR.out w1 hgrow; have hf1 := HFRZ.out w1 hgrow; have HOWN := hid hown; have HGROW := hid hgrow; have HAT := hid hatg; clear hown hgrow hatg hltg))
              all_goals
                go_wp2_with fail
                go_roundg (n - (k + 1))
                case measure => rw [HG.out]; omega
                case rel => exact ⟨k + 1, rfl, DeclR.grown true hlt HI.out (Below.setCell (((HB.out.alloc hBs _).drew).grown HGROW.out (by simp; omega) HRB.out) HDB.out _) HDE.out HKF.out HS.out (Decls.appended (W := (wr.alloc (.cells #[.string (O k).item] 9)).drew) (C := #[.string (O k).item]) HD.out true HBL.out rfl HOWN.out HGROW.out HAT.out)⟩
          · have HKF : Hid ((O k).kind = kindOf false) := by simpa [Hid, kindOf] using hk2
            have HROW : Hid ((wr.alloc (.cells #[.string (O k).item] 9)).drew.ownsRow w.heap.size 9 1 (V ((O k).txn, false)) (LD O all k ((O k).txn, false)).length ((LD O all k ((O k).txn, false)).map Value.string)) := World.ownsRow.alloc (HD.out.fam.rows ((O k).txn, false)) _
            have H63 : Hid ((LD O all k ((O k).txn, false)).length + 1 ≤ maxLen) := by have := HLEN.out false; unfold Hid maxLen; omega
            have HBY : Hid (((LD O all k ((O k).txn, false)).length + 1) * 16 ≤ 140737488355328) := by have := HLEN.out false; unfold Hid; omega
            have HRB : Hid (∀ j, (V ((O k).txn, false)).ownBlock = some j → w.heap.size ≤ j) := fun j hj => ((HD.out.fam.rows ((O k).txn, false)).block hj).1
            have HNE : Hid (some db ≠ (V ((O k).txn, false)).ownBlock) := fun e => by obtain ⟨_, cur, hcc⟩ := (HD.out.fam.rows ((O k).txn, false)).block e.symm; rw [HDC.out] at hcc; cases hcc
            have HFAR : Hid (∀ w1 : World, (wr.alloc (.cells #[.string (O k).item] 9)).drew.grownBy w1 (V ((O k).txn, false)).ownBlock → w1.cell? ⟨db, 1, none⟩ = some (V ((O k).txn, false))) := fun w1 hg => by rw [hg.cell_far _ (by simp; omega) HNE.out]; rw [World.cell?_drew, World.cell?_alloc_past _ _ _ hdlt]; exact hc1
            have HFRZ : Hid (∀ w1 : World, (wr.alloc (.cells #[.string (O k).item] 9)).drew.grownBy w1 (V ((O k).txn, false)).ownBlock → w1.frozen? ⟨db, 1, none⟩ = false) := fun w1 hg => by
              rw [hg.frozen_far _ (by simp; omega) HNE.out]
              have hh : (wr.alloc (.cells #[.string (O k).item] 9)).drew.heap[db]? = wr.heap[db]? := Below.heap_alloc wr _ db hdlt
              simp [World.frozen?, hh, HDC.out]
            go_wp2_with fail
            go_region_law ((refine step_append_lies _ (by rfl) _ _ _ (by rfl) w.heap.size 9 i0 _ 1 16 Try.underlying36 hi0 hz0 hz1 hz2 rfl (by omega) (V ((O k).txn, false)) (LD O all k ((O k).txn, false)).length ((LD O all k ((O k).txn, false)).map Value.string) (by rfl) HROW.out ⟨wr.heap.size, 0, none⟩ 1 1 [.string (O k).item] (by rfl) (by rfl) (World.news_of_block (cs := #[.string (O k).item]) (t := 9) (fr := (0, 0)) (heap_alloc_new wr _)) (by simp [Value.oneCell']) (by omega) H63.out HBY.out (by simp; omega) (wr.heap.size + 1) (by simp) ?_; intro g cap w1 hown hgrow hatg hltg; have hd1 := HFAR.out w1 hgrow; have hf1 := HFRZ.out w1 hgrow; have HOWN := hid hown; have HGROW := hid hgrow; have HAT := hid hatg; clear hown hgrow hatg hltg))
            all_goals
              go_wp2_with fail
              go_roundg (n - (k + 1))
              case measure => rw [HG.out]; omega
              case rel => exact ⟨k + 1, rfl, DeclR.grown false hlt HI.out (Below.setCell (((HB.out.alloc hBs _).drew).grown HGROW.out (by simp; omega) HRB.out) HDB.out _) HDE.out HKF.out HS.out (Decls.appended (W := (wr.alloc (.cells #[.string (O k).item] 9)).drew) (C := #[.string (O k).item]) HD.out false HBL.out rfl HOWN.out HGROW.out HAT.out)⟩
      · cases hd : (all || (O k).decl)
        · have HDE : Hid (isDecl all (O k) = false) := by unfold Hid isDecl; rw [hk1, hd]; rfl
          simp only [Bool.or_eq_false_iff] at hd
          obtain ⟨rfl, hdd⟩ := hd
          go_wp2_with fail
          go_roundg (n - (k + 1))
          case measure => rw [HG.out]; omega
          case rel =>
            refine ⟨k + 1, rfl, HREL.out.idle hlt rfl HB.out HDE.out (fun f h => ?_)⟩
            have h1 := h.1
            simp only [beq_iff_eq] at hk1
            rw [hk1] at h1
            cases f <;> simp [kindOf] at h1
        · have HDE : Hid (isDecl all (O k) = true) := by unfold Hid isDecl; rw [hk1, hd]; rfl
          obtain ⟨F, hv, hF⟩ := HD.out.map
          obtain ⟨w2, hrun, hv2, ht2⟩ := (VMap.congr (w' := (wr.alloc (.cells #[.int .i64 (O k).prio, .slice none 0 0, .slice none 0 0] 62)).drew) (hv.alloc (.cells #[.int .i64 (O k).prio, .slice none 0 0, .slice none 0 0] 62)) rfl).store (val := .pointer (some ⟨wr.heap.size, 0, none⟩)) law38 Try.underlying25 (by have := cntD_le O all k; unfold maxLen; omega) (key38 HT.out)
          have HV := hid hv
          have HF := hid hF
          have HV2 := hid hv2
          have HT2 := hid ht2
          clear hv hF hv2 ht2
          cases all
          · simp only [Bool.false_or] at hd
            go_wp2_with fail
            go_region
            all_goals
              go_wp2_with fail
              go_roundg (n - (k + 1))
              case measure => rw [HG.out]; omega
              case rel => exact ⟨k + 1, rfl, DeclR.declared (wr := wr) (c := 0) hlt HI.out HF.out HDE.out (below_turned ((HB.out.alloc hBs _).drew) HT2.out (Nat.le_refl _)) (Decls.declare (w1 := (wr.alloc (.cells #[.int .i64 (O k).prio, .slice none 0 0, .slice none 0 0] 62)).drew) HD.out hBs HF.out HV.out _ _ rfl HV2.out HT2.out)⟩
          · clear hd
            go_wp2_with fail
            go_region
            all_goals
              go_wp2_with fail
              go_roundg (n - (k + 1))
              case measure => rw [HG.out]; omega
              case rel => exact ⟨k + 1, rfl, DeclR.declared (wr := wr) (c := 0) hlt HI.out HF.out HDE.out (below_turned ((HB.out.alloc hBs _).drew) HT2.out (Nat.le_refl _)) (Decls.declare (w1 := (wr.alloc (.cells #[.int .i64 (O k).prio, .slice none 0 0, .slice none 0 0] 62)).drew) HD.out hBs HF.out HV.out _ _ rfl HV2.out HT2.out)⟩
    · obtain rfl : k = n := by omega
      go_wp2_with fail
      go_ret
      exact ⟨blk, V, rfl, HB.out, HD.out, HI.out⟩

end Go.Proofs.Qxb6617267a
