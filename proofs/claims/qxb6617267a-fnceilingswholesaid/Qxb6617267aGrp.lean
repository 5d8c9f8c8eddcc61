/-
  FnDeclarationsWhole: the plain law; small callees; the two maps of slices.
-/
import Derived.Test.Qxb6617267aDecl
namespace Go.Proofs.Qxb6617267a
open Go.ChangeShapes Go.WideShapes Go.ChangeAt Go.RowKit
set_option linter.unusedVariables false

/-! ### the plain law -/
/-- t's last declaring begin lies before j. -/
def after (O : Nat → OpR) (all : Bool) (n : Nat) (t : Int) (j : Nat) : Bool := match lastD O all n t with | some b => decide (b < j) | none => false

def items2 (O : Nat → OpR) (all : Bool) (n : Nat) (f : Bool) : Nat → Int → List ByteArray
  | 0, _ => []
  | j + 1, t => if (O j).txn = t ∧ after O all n t j = true ∧ (O j).kind = kindOf f then items2 O all n f j t ++ [(O j).item] else items2 O all n f j t
def L2 (O : Nat → OpR) (all : Bool) (n j : Nat) (x : Int × Bool) : List ByteArray := items2 O all n x.2 j x.1

theorem items2_len (O : Nat → OpR) (all : Bool) (n : Nat) (f : Bool) (t : Int) : ∀ k, (items2 O all n f k t).length ≤ k
  | 0 => Nat.le_refl _
  | k + 1 => by
    have := items2_len O all n f t k
    unfold items2
    split
    · simp; exact this
    · omega

theorem lastD_spec (O : Nat → OpR) (all : Bool) (t : Int) (b : Nat) : ∀ n, lastD O all n t = some b → b < n ∧ isDecl all (O b) = true ∧ (O b).txn = t ∧ ∀ j, b < j → j < n → ¬ (isDecl all (O j) = true ∧ (O j).txn = t)
  | 0, h => by cases h
  | n + 1, h => by
    rw [lastD] at h
    by_cases e : isDecl all (O n) = true ∧ (O n).txn = t
    · rw [if_pos e] at h
      cases h
      exact ⟨by omega, e.1, e.2, fun j h1 h2 => by omega⟩
    · rw [if_neg e] at h
      obtain ⟨h1, h2, h3, h4⟩ := lastD_spec O all t b n h
      refine ⟨by omega, h2, h3, fun j hj1 hj2 => ?_⟩
      by_cases ej : j = n
      · rw [ej]; exact e
      · exact h4 j hj1 (by omega)

theorem items_eq (O : Nat → OpR) (all : Bool) (n : Nat) (f : Bool) (t : Int) (b : Nat) (h : lastD O all n t = some b) : ∀ j, j ≤ n → (j ≤ b → items2 O all n f j t = []) ∧ (b < j → items2 O all n f j t = itemsD O all f j t ∧ lastD O all j t = some b)
  | 0, _ => ⟨fun _ => rfl, fun h => by omega⟩
  | j + 1, hj => by
    obtain ⟨hb, hd, ht, hno⟩ := lastD_spec O all t b n h
    obtain ⟨i1, i2⟩ := items_eq O all n f t b h j (by omega)
    have haft : after O all n t j = decide (b < j) := by unfold after; rw [h]
    refine ⟨fun hle => ?_, fun hlt => ?_⟩
    · rw [items2, haft, if_neg (by simp; omega)]
      exact i1 (by omega)
    · by_cases e : j = b
      · subst e
        rw [items2, haft, if_neg (by simp), itemsD, if_pos ht, if_pos hd, lastD, if_pos ⟨hd, ht⟩]
        exact ⟨i1 (Nat.le_refl _), rfl⟩
      · obtain ⟨e1, e2⟩ := i2 (by omega)
        have hnj := hno j (by omega) (by omega)
        rw [items2, haft, itemsD, lastD, if_neg hnj]
        refine ⟨?_, e2⟩
        by_cases et : (O j).txn = t
        · have hnd : ¬ isDecl all (O j) = true := fun hh => hnj ⟨hh, et⟩
          rw [if_pos et, if_neg hnd]
          by_cases ek : (O j).kind = kindOf f
          · rw [if_pos ⟨et, by simp; omega, ek⟩, if_pos ⟨ek, by rw [e2]; rfl⟩, e1]
          · rw [if_neg (fun hh => ek hh.2.2), if_neg (fun hh => ek hh.1), e1]
        · rw [if_neg (fun hh => et hh.1), if_neg et, e1]

theorem items_whole (O : Nat → OpR) (all : Bool) (n : Nat) (f : Bool) (t : Int) (b : Nat) (h : lastD O all n t = some b) : items2 O all n f n t = itemsD O all f n t :=
  ((items_eq O all n f t b h n (Nat.le_refl _)).2 (lastD_spec O all t b n h).1).1

/-! ### small callees -/
theorem zzDecl_any (a : Option Addr) (n c : Nat) (O : Nat → OpR) (all : Bool) (w : World) (hS : IsOps w a n O) (hn : n ≤ 16384) :
    Calls Try.prog 9 #[.slice a n c, .bool all] w fun e w' => ∃ blk V, e = .returned (.map (some w.heap.size)) ∧ Below w.heap.size w w' ∧ Decls w' w.heap.size w.heap.size (cntD O all n) blk (prD O all n) V (LD O all n) ∧ ∀ t, (blk t).isSome = (lastD O all n t).isSome := by
  have C := hid (declarations_any a n c O all w hS hn)
  clear hS
  go_enter Try.func9, Try.ntmps9
  go_wp2_with fail
  refine C.out.mono ?_
  rintro e w' ⟨blk, V, rfl, h1, h2, h3⟩
  have H := hid (And.intro h1 (And.intro h2 h3))
  clear h1 h2 h3
  go_wp2_with fail
  go_ret
  exact ⟨blk, V, rfl, H.out⟩

theorem prio_any (b : Nat) (v : Value) (w : World) (h : w.cell? ⟨b, 0, none⟩ = some v) : Calls Try.prog 12 #[.pointer (some ⟨b, 0, none⟩)] w fun e w' => e = .returned v ∧ w' = w := by
  go_enter Try.func12, Try.ntmps12
  go_wp2
  go_ret
  exact ⟨rfl, rfl⟩
theorem reads_any (b : Nat) (v : Value) (w : World) (h : w.cell? ⟨b, 1, none⟩ = some v) : Calls Try.prog 14 #[.pointer (some ⟨b, 0, none⟩)] w fun e w' => e = .returned v ∧ w' = w := by
  go_enter Try.func14, Try.ntmps14
  go_wp2
  go_ret
  exact ⟨rfl, rfl⟩
theorem writes_any (b : Nat) (v : Value) (w : World) (h : w.cell? ⟨b, 2, none⟩ = some v) : Calls Try.prog 15 #[.pointer (some ⟨b, 0, none⟩)] w fun e w' => e = .returned v ∧ w' = w := by
  go_enter Try.func15, Try.ntmps15
  go_wp2
  go_ret
  exact ⟨rfl, rfl⟩

set_option maxHeartbeats 1000000 in
theorem same_any {w : World} {B B' : Nat} {v v' : Value} {l : List ByteArray} (h : RowS w B v l) (h' : RowS w B' v' l) (hl : l.length ≤ 16384) :
    Calls Try.prog 13 #[v, v'] w fun e w' => e = .returned (.bool true) ∧ ∃ m, w' = w.drewN m := by
  obtain ⟨a, c, rfl, hc⟩ := h.form
  obtain ⟨a', c', rfl, hc'⟩ := h'.form
  have HC := hid hc
  have HC' := hid hc'
  clear hc hc' h h'
  obtain ⟨n, hn⟩ : ∃ n, n = l.length := ⟨_, rfl⟩
  have HN := hid hn
  rw [← hn] at hl ⊢
  clear hn
  go_enter Try.func13, Try.ntmps13
  go_wp2
  go_loopg [5] n (fun g i wr => ∃ k m : Nat, g = n - k ∧ k ≤ n ∧ i = .int .i64 k ∧ wr = w.drewN m)
  case atStart => exact ⟨0, 0, rfl, Nat.zero_le _, rfl, rfl⟩
  case round =>
    obtain ⟨k, m, hg, hk, rfl, rfl⟩ := hrel
    have HG := hid hg
    clear hg
    by_cases hlt : k < n
    · obtain ⟨g1, rfl, e1⟩ := HC.out k (by rw [← HN.out]; exact hlt)
      obtain ⟨g2, rfl, e2⟩ := HC'.out k (by rw [← HN.out]; exact hlt)
      have hkl : (k : Int) < (n : Int) := by omega
      go_wp2
      go_quiet (fail)
      go_wp2
      go_roundg (n - (k + 1))
      case measure => rw [HG.out]; omega
      case rel => exact ⟨k + 1, _, rfl, by omega, by go_num, rfl⟩
    · go_wp2
      go_ret
      exact ⟨rfl, _, rfl⟩

/-! ### the two maps of slices -/
structure Grp (w : World) (B Mr Mw cnt : Nat) (V : Int × Bool → Value) (L : Int × Bool → List ByteArray) : Prop where
  BR : B ≤ Mr
  BW : B ≤ Mw
  ne : Mr ≠ Mw
  mr : ∃ F n, n ≤ cnt ∧ VMap Try.prog 32 w Mr n F ∧ ∀ t, (F (uk t)).getD (.slice none 0 0) = V (t, false)
  mw : ∃ F n, n ≤ cnt ∧ VMap Try.prog 32 w Mw n F ∧ ∀ t, (F (uk t)).getD (.slice none 0 0) = V (t, true)
  fam : Fam w B V L

theorem Grp.start (w : World) (O : Nat → OpR) (all : Bool) (n : Nat) : Grp ((w.alloc (.map #[] 0)).alloc (.map #[] 0)) w.heap.size w.heap.size (w.heap.size + 1) 0 (fun _ => .slice none 0 0) (L2 O all n 0) := by
  refine ⟨Nat.le_refl _, by omega, by omega, ⟨_, 0, Nat.le_refl _, (VMap.made Try.prog 32 w).alloc _, fun t => rfl⟩, ⟨fun _ => none, 0, Nat.le_refl _, ?_, fun t => rfl⟩, Fam.start _ _⟩
  have := VMap.made Try.prog 32 (w.alloc (.map #[] 0))
  simpa using this

theorem Grp.congr {w w' : World} {B Mr Mw cnt cnt' : Nat} {V : Int × Bool → Value} {L L' : Int × Bool → List ByteArray} (h : Grp w B Mr Mw cnt V L) (hw : w'.heap = w.heap) (hc : cnt ≤ cnt') (hL : ∀ x, L x = L' x) : Grp w' B Mr Mw cnt' V L' := by
  have e : L = L' := funext hL
  subst e
  obtain ⟨F, n, hn, hv, hF⟩ := h.mr
  obtain ⟨F', n', hn', hv', hF'⟩ := h.mw
  exact ⟨h.BR, h.BW, h.ne, ⟨F, n, by omega, hv.congr (by rw [hw]), hF⟩, ⟨F', n', by omega, hv'.congr (by rw [hw]), hF'⟩, h.fam.congr (fun g cur _ => by rw [hw])⟩

/-- Which of the two maps. -/
def Grp.blk (Mr Mw : Nat) (f : Bool) : Nat := if f then Mw else Mr
theorem Grp.look {w : World} {B Mr Mw cnt : Nat} {V : Int × Bool → Value} {L : Int × Bool → List ByteArray} (h : Grp w B Mr Mw cnt V L) (f : Bool) : ∃ F n, n ≤ cnt ∧ VMap Try.prog 32 w (Grp.blk Mr Mw f) n F ∧ ∀ t, (F (uk t)).getD (.slice none 0 0) = V (t, f) := by
  cases f
  · exact h.mr
  · exact h.mw

/-- Behind 'm[t] = append(m[t], s)'. -/
theorem Grp.appended {w W w1 w2 : World} {B Mr Mw cnt : Nat} {V : Int × Bool → Value} {L : Int × Bool → List ByteArray} (h : Grp w B Mr Mw cnt V L) (f : Bool) {t : Int} {s : ByteArray} {C : Array Value} {g cap n : Nat} {F : Lit → Option Value}
    (hW : W.heap = (w.alloc (.cells C 9)).heap) (hn : n ≤ cnt) (hF : ∀ t, (F (uk t)).getD (.slice none 0 0) = V (t, f))
    (hown : w1.ownsRow B 9 1 (.slice (some ⟨g, 0, none⟩) ((L (t, f)).length + 1) cap) ((L (t, f)).length + 1) ((L (t, f)).map Value.string ++ [.string s])) (hg : W.grownBy w1 (V (t, f)).ownBlock) (hat : (V (t, f)).ownBlock = some g ∨ g = w.heap.size + 1)
    (hv : VMap Try.prog 32 w2 (Grp.blk Mr Mw f) (grow (F (uk t)) n) (upd F (uk t) (.slice (some ⟨g, 0, none⟩) ((L (t, f)).length + 1) cap))) (ht : w1.mapTurned w2 (Grp.blk Mr Mw f)) :
    Grp w2 B Mr Mw (cnt + 1) (fun y => if y = (t, f) then .slice (some ⟨g, 0, none⟩) ((L (t, f)).length + 1) cap else V y) (fun y => if y = (t, f) then L (t, f) ++ [s] else L y) := by
  have hsz : W.heap.size = w.heap.size + 1 := by rw [hW]; simp
  have hWold : ∀ k, k < w.heap.size → W.heap[k]? = w.heap[k]? := fun k hk => by rw [hW]; exact Below.heap_alloc w _ k hk
  have famW : Fam W B V L := h.fam.congr (fun k cur hk => hWold k (lt_of_heap hk))
  have fam1 := famW.appended (t, f) hown hg hat (by omega)
  have hrow : ∀ k, (V (t, f)).ownBlock = some k → ∃ cur, W.heap[k]? = some (.cells cur 9 (0, 0)) := fun k hk => ((famW.rows (t, f)).block hk).2
  have fam2 := fam1.congr (w' := w2) (fun k cur hk => (turned_block ht).2 k (fun e => by
    obtain ⟨es, cl, _, _, hb, _⟩ := ht
    rw [e, hb] at hk; cases hk))
  -- the other map
  have other : ∀ (M : Nat) (F' : Lit → Option Value) (n' : Nat), M ≠ Grp.blk Mr Mw f → VMap Try.prog 32 w M n' F' → VMap Try.prog 32 w2 M n' F' := fun M F' n' hne hv' => by
    obtain ⟨es, cl, hm⟩ := hv'.isMap
    have hWm : W.heap[M]? = some (.map es cl) := (hWold M hv'.lt).trans hm
    refine hv'.congr ?_
    rw [(turned_block ht).2 M hne, hg.block M (by rw [hsz]; have := hv'.lt; omega) (fun e => by obtain ⟨cur, hc⟩ := hrow M e.symm; rw [hWm] at hc; cases hc), hWm, hm]
  have self : ∀ x, ((upd F (uk t) (.slice (some ⟨g, 0, none⟩) ((L (t, f)).length + 1) cap)) (uk x)).getD (.slice none 0 0) = (if (x, f) = (t, f) then .slice (some ⟨g, 0, none⟩) ((L (t, f)).length + 1) cap else V (x, f)) := fun x => by
    rw [upd_uk]
    by_cases e : x = t
    · subst e; simp
    · rw [if_neg e, if_neg (fun hh => e (by cases hh; rfl))]; exact hF x
  cases f with
  | false =>
    obtain ⟨F', n', hn', hv', hF'⟩ := h.mw
    refine ⟨h.BR, h.BW, h.ne, ⟨_, _, Nat.le_trans (grow_le _ _) (by omega), hv, self⟩, ⟨F', n', by omega, other Mw F' n' (Ne.symm h.ne) hv', fun x => ?_⟩, fam2⟩
    rw [if_neg (fun hh => by cases hh)]; exact hF' x
  | true =>
    obtain ⟨F', n', hn', hv', hF'⟩ := h.mr
    refine ⟨h.BR, h.BW, h.ne, ⟨F', n', by omega, other Mr F' n' h.ne hv', fun x => ?_⟩, ⟨_, _, Nat.le_trans (grow_le _ _) (by omega), hv, self⟩, fam2⟩
    rw [if_neg (fun hh => by cases hh)]; exact hF' x

end Go.Proofs.Qxb6617267a
