/-
  FnCeilingsOfDeclarations: the walk.
-/
import Derived.Test.Qxb6617267aMatches
namespace Go.Proofs.Qxb6617267a
open Go.ChangeShapes Go.WideShapes Go.ChangeAt Go.RowKit
set_option linter.unusedVariables false
set_option linter.unusedSimpArgs false

/-- The contributions of the first k operations. -/
def opX (O : Nat → OpR) (all : Bool) (n k : Nat) (it : ByteArray) (p : Int) (f : Bool) : Prop := ∃ j b, j < k ∧ lastD O all n (O j).txn = some b ∧ b < j ∧ (O j).kind = kindOf f ∧ it = (O j).item ∧ p = (O b).prio

theorem mem_items2 {O : Nat → OpR} {all : Bool} {n : Nat} {f : Bool} {t : Int} {it : ByteArray} : ∀ j, it ∈ items2 O all n f j t ↔ ∃ i, i < j ∧ (O i).txn = t ∧ after O all n t i = true ∧ (O i).kind = kindOf f ∧ it = (O i).item
  | 0 => by
    constructor
    · intro h; cases h
    · rintro ⟨i, h, _⟩; omega
  | j + 1 => by
    have ih := mem_items2 (O := O) (all := all) (n := n) (f := f) (t := t) (it := it) j
    rw [items2]
    split
    · rename_i hc
      rw [List.mem_append, ih, List.mem_singleton]
      constructor
      · rintro (⟨i, h, r⟩ | h)
        · exact ⟨i, by omega, r⟩
        · exact ⟨j, by omega, hc.1, hc.2.1, hc.2.2, h⟩
      · rintro ⟨i, h, r⟩
        by_cases e : i = j
        · subst e; exact Or.inr r.2.2.2
        · exact Or.inl ⟨i, by omega, r⟩
    · rename_i hc
      rw [ih]
      constructor
      · rintro ⟨i, h, r⟩; exact ⟨i, by omega, r⟩
      · rintro ⟨i, h, r⟩
        by_cases e : i = j
        · subst e; exact absurd ⟨r.1, r.2.1, r.2.2.1⟩ hc
        · exact ⟨i, by omega, r⟩

theorem mem_itemsD {O : Nat → OpR} {all f : Bool} {t : Int} {it : ByteArray} : ∀ k, it ∈ itemsD O all f k t → ∃ i, i < k ∧ it = (O i).item
  | 0, h => by cases h
  | k + 1, h => by
    rw [itemsD] at h
    have up : (it ∈ itemsD O all f k t) → ∃ i, i < k + 1 ∧ it = (O i).item := fun h => by obtain ⟨i, h1, h2⟩ := mem_itemsD k h; exact ⟨i, by omega, h2⟩
    split at h
    · split at h
      · cases h
      · split at h
        · rw [List.mem_append, List.mem_singleton] at h
          rcases h with h | h
          · exact up h
          · exact ⟨k, by omega, h⟩
        · exact up h
    · exact up h

/-- What the declarations contribute is what the operations contribute. -/
theorem opX_decl {O : Nat → OpR} {all : Bool} {n : Nat} {blk : Int → Option Nat} (hI : ∀ t, (blk t).isSome = (lastD O all n t).isSome) (it : ByteArray) (p : Int) (f : Bool) :
    declX blk (prD O all n) (LD O all n) it p f ↔ opX O all n n it p f := by
  constructor
  · rintro ⟨t, h1, h2, h3⟩
    rw [hI] at h1
    obtain ⟨b, hb⟩ := Option.isSome_iff_exists.1 h1
    have h4 : it ∈ items2 O all n f n t := by rw [items_whole O all n f t b hb]; exact h3
    obtain ⟨i, hi, ht, ha, hk, he⟩ := (mem_items2 n).1 h4
    unfold after at ha
    rw [hb] at ha
    refine ⟨i, b, hi, by rw [ht]; exact hb, by simpa using ha, hk, he, ?_⟩
    rw [h2]; unfold prD; rw [hb]
  · rintro ⟨j, b, hj, hb, hlt, hk, he, hp⟩
    refine ⟨(O j).txn, by rw [hI, hb]; rfl, by unfold prD; rw [hb]; exact hp, ?_⟩
    show it ∈ itemsD O all f n (O j).txn
    rw [← items_whole O all n f _ b hb]
    exact (mem_items2 n).2 ⟨j, hj, rfl, by unfold after; rw [hb]; simpa using hlt, hk, he⟩

theorem opX_idle {O : Nat → OpR} {all : Bool} {n k : Nat} (h : ∀ f b, ¬ (lastD O all n (O k).txn = some b ∧ b < k ∧ (O k).kind = kindOf f)) (it : ByteArray) (p : Int) (f : Bool) : opX O all n k it p f ↔ opX O all n (k + 1) it p f := by
  constructor
  · rintro ⟨j, b, hj, r⟩; exact ⟨j, b, by omega, r⟩
  · rintro ⟨j, b, hj, r⟩
    by_cases e : j = k
    · subst e; exact absurd ⟨r.1, r.2.1, r.2.2.1⟩ (h f b)
    · exact ⟨j, b, by omega, r⟩

theorem opX_step {O : Nat → OpR} {all : Bool} {n k b : Nat} {g : Bool} (hb : lastD O all n (O k).txn = some b) (hlt : b < k) (hk : (O k).kind = kindOf g) (it : ByteArray) (p : Int) (f : Bool) :
    (opX O all n k it p f ∨ (it = (O k).item ∧ p = (O b).prio ∧ f = g)) ↔ opX O all n (k + 1) it p f := by
  constructor
  · rintro (⟨j, b, hj, r⟩ | ⟨h1, h2, h3⟩)
    · exact ⟨j, b, by omega, r⟩
    · subst h3; exact ⟨k, b, by omega, hb, hlt, hk, h1, h2⟩
  · rintro ⟨j, b', hj, r⟩
    by_cases e : j = k
    · subst e
      obtain ⟨r1, r2, r3, r4, r5⟩ := r
      rw [hb] at r1
      cases r1
      exact Or.inr ⟨r4, r5, kindOf_inj (r3.symm.trans hk)⟩
    · exact Or.inl ⟨j, b', by omega, r⟩

theorem Model.heap {w w' : World} {B n : Nat} {A R : ByteArray → Option Int} (h : Model w B n A R) (hw : w'.heap = w.heap) : Model w' B n A R := by
  obtain ⟨v, l, hM, h2⟩ := h
  exact ⟨v, l, hM.old (fun i hi => by rw [hw]), h2⟩
theorem Model.mono {w : World} {B n n' : Nat} {A R : ByteArray → Option Int} (h : Model w B n A R) (hn : n ≤ n') : Model w B n' A R := by
  obtain ⟨v, l, hM, h2⟩ := h
  exact ⟨v, l, hM.ext hn (fun i hi x => rfl), h2⟩

/-- The loop's head. -/
structure CodR (w4 : World) (X : Nat → ByteArray → Int → Bool → Prop) (n k : Nat) (i : Value) (wr : World) : Prop where
  le : k ≤ n
  i : i = .int .i64 k
  below : Below w4.heap.size w4 wr
  model : ∃ A R, Model wr w4.heap.size (8 * k) A R ∧ Cei (X k) A R

theorem CodR.idle {w4 : World} {X : Nat → ByteArray → Int → Bool → Prop} {n k : Nat} {i : Value} {wr : World} (h : CodR w4 X n k i wr) (hlt : k < n) (hX : ∀ it p f, X k it p f ↔ X (k + 1) it p f) : CodR w4 X n (k + 1) (.int .i64 ((k : Int) + 1)) wr := by
  obtain ⟨A, R, hM, hC⟩ := h.model
  exact ⟨by omega, by go_num, h.below, A, R, hM.mono (by omega), hC.iff hX⟩

theorem CodR.noted {w4 : World} {X : Nat → ByteArray → Int → Bool → Prop} {n k : Nat} {i : Value} {wr w' : World} (h : CodR w4 X n k i wr) (hlt : k < n) {A R : ByteArray → Option Int} {s : ByteArray} {q : Int} {g : Bool} (hC : Cei (X k) A R) (hX : ∀ it p f, (X k it p f ∨ (it = s ∧ p = q ∧ f = g)) ↔ X (k + 1) it p f)
    (hb : Below w4.heap.size wr w') (hM : Model w' w4.heap.size (8 * k + 8) (setA A s q) (setR R s q g)) : CodR w4 X n (k + 1) (.int .i64 ((k : Int) + 1)) w' :=
  ⟨by omega, by go_num, h.below.trans hb, _, _, hM.mono (by omega), (hC.add s q g).iff hX⟩

set_option maxRecDepth 100000 in
set_option maxHeartbeats 8000000 in
theorem cod_walk (a : Option Addr) (n c : Nat) (O : Nat → OpR) (all : Bool) (w : World) (hS : IsOps w a n O) :
    Calls Try.prog 6 #[.slice a n c, .bool all] w fun e w' => e = .returned (.bool true) ∧ Below w.heap.size w w' := by
  have HS := hid hS
  clear hS
  go_enter Try.func6, Try.ntmps6
  go_wp2_with fail
  refine (bytesDecl_any 27 (Or.inr rfl) a n c O all w HS.out).mono ?_
  rintro e w' ⟨r, rfl, rfl⟩
  cases r
  · go_wp2_with fail
    go_ret
    exact ⟨rfl, Below.refl _ _⟩
  go_wp2_with fail
  refine (opsTooBig_any a n c O w HS.out).mono ?_
  rintro e w' ⟨r, rfl, rfl, hshort⟩
  cases r
  rotate_left
  · clear hshort
    go_wp2_with fail
    go_ret
    exact ⟨rfl, Below.refl _ _⟩
  have hn := hshort rfl
  clear hshort
  go_wp2_with fail
  refine (toOps_any a n c O w HS.out hn).mono ?_
  rintro e w1 ⟨a1, c1, rfl, hs1, hb1⟩
  have HS1 := hid hs1
  have HB1 := hid hb1
  clear hs1 hb1
  go_wp2_with fail
  refine (zzDecl_any a1 n c1 O all w1 HS1.out hn).mono ?_
  rintro e w2 ⟨blk, V, rfl, hb2, hd2, hI⟩
  have HB2 := hid (HB1.out.trans (hb2.mono HB1.out.size))
  have HD2 := hid hd2
  have HI := hid hI
  have HSZ : Hid (∀ i, i < n → (O i).item.size ≤ maxLen) := fun i hi => by obtain ⟨_, _, _, _, _, hok⟩ := HS.out.2 i hi; exact hok.2.1
  clear hb2 hd2 hI HS1
  go_wp2_with fail
  refine (zzCeilings_any w2 _ _ _ blk _ V _ HD2.out (Nat.le_trans (cntD_le O all n) hn) (fun x => Nat.le_trans (itemsD_len O all x.2 x.1 n) (by omega)) (fun x it hit => by obtain ⟨i, hi, rfl⟩ := mem_itemsD n hit; exact HSZ.out i hi)).mono ?_
  rintro e w3 ⟨rfl, hb3, cc, A0, R0, hcm, hcei⟩
  have HB3 := hid (HB2.out.trans (hb3.mono HB2.out.size))
  have HCM := hid hcm
  have HCE : Hid (Cei (opX O all n n) A0 R0) := hcei.iff (opX_decl HI.out)
  clear hb3 hcm hcei HD2 HI HB1 HB2
  go_wp2_with fail
  refine (last_any a n c O all w3 (HS.out.below HB3.out) hn).mono ?_
  rintro e w4 ⟨rfl, hb4, hl4⟩
  have HB4 := hid (HB3.out.trans (hb4.mono HB3.out.size))
  have HCM4 := hid (HCM.out.below hb4)
  have HL4 := hid hl4
  have HS4 := hid (HS.out.below HB4.out)
  clear hb4 hl4 HCM HS HB3
  go_wp2_with fail
  refine (newModel_any w4).mono ?_
  rintro e w5 ⟨rfl, hb5, hm5⟩
  have HB5 := hid hb5
  have HM5 := hid hm5
  clear hb5 hm5
  go_wp2_with fail
  go_loopg [8] n (fun g i wr => ∃ k, g = n - k ∧ CodR w4 (opX O all n) n k i wr)
  case atStart => exact ⟨0, rfl, Nat.zero_le _, rfl, HB5.out, _, _, HM5.out, Cei.start.iff (fun it p f => ⟨False.elim, fun ⟨j, _, h, _⟩ => by omega⟩)⟩
  case round =>
    obtain ⟨k, hg, hrel⟩ := hrel
    have HREL := hid hrel
    obtain ⟨hk, rfl, hbel, A, R, hM, hC⟩ := hrel
    have HG := hid hg
    have HB := hid hbel
    have HM := hid hM
    have HC := hid hC
    clear hg hbel hM hC HM5 HB5
    by_cases hlt : k < n
    · obtain ⟨b, off, rfl, hb, hat, hok⟩ := HS4.out.2 k hlt
      obtain ⟨q0, q1, q2, q3, q4, q5, q6⟩ := hat.below HB.out hb
      obtain ⟨_, hit, ht, _⟩ := hok
      have HT := hid ht
      have HAT := hid hat
      clear hat ht
      have hBs : w4.heap.size ≤ wr.heap.size := HB.out.size
      have hbw : b < wr.heap.size := by omega
      have ll := (HL4.out.below HB.out HL4.out.lt).look HT.out
      cases hla : lastD O all n (O k).txn with
      | none =>
        rw [hla] at ll
        simp only [Option.map_none, Option.getD_none, Option.isSome_none] at ll
        have HLA := hid hla
        clear hla
        go_wp2_with fail
        go_roundg (n - (k + 1))
        case measure => rw [HG.out]; omega
        case rel => exact ⟨k + 1, rfl, HREL.out.idle hlt (opX_idle (fun f b' h => by have h1 := h.1; rw [HLA.out] at h1; cases h1))⟩
      | some bb =>
        rw [hla] at ll
        simp only [Option.map_some, Option.getD_some, Option.isSome_some] at ll
        have HLA := hid hla
        clear hla
        by_cases hbk : (k : Int) ≤ (bb : Int)
        · go_wp2_with fail
          go_roundg (n - (k + 1))
          case measure => rw [HG.out]; omega
          case rel => exact ⟨k + 1, rfl, HREL.out.idle hlt (opX_idle (fun f b' h => by have h1 := h.1; have h2 := h.2.1; rw [HLA.out] at h1; cases h1; omega))⟩
        · have hbb : bb < k := by omega
          obtain ⟨b', off', hab, hb', hat', hok'⟩ := HS4.out.2 bb (by omega)
          cases hab
          obtain ⟨z0, z1, z2, z3, z4, z5, z6⟩ := hat'.below HB.out hb'
          clear z0 z1 z2 z3 z4 z6 hat' hok' hb'
          have hbi : (bb : Int) < (n : Int) := by omega
          cases hk2 : ((O k).kind == 2)
          · cases hk3 : ((O k).kind == 3)
            · go_wp2_with fail
              go_roundg (n - (k + 1))
              case measure => rw [HG.out]; omega
              case rel =>
                refine ⟨k + 1, rfl, HREL.out.idle hlt (opX_idle (fun f b' h => ?_))⟩
                have h1 := h.2.2
                cases f
                · rw [h1] at hk2; cases hk2
                · rw [h1] at hk3; cases hk3
            · have HKF : Hid ((O k).kind = kindOf true) := by simpa [Hid, kindOf] using hk3
              have HN8 : Hid (8 * k ≤ 1000000000000) := by unfold Hid; omega
              go_wp2_with fail
              go_region_with (go_at_call 25; refine (note_any wr.drew w4.heap.size (8 * k) A R _ _ true (HM.out.heap rfl) hit HN8.out HC.out.quiet).mono ?_; rintro e wz ⟨rfl, hbz, hmz⟩; have HBZ := hid hbz; have HMZ := hid hmz; clear hbz hmz)
              all_goals
                go_wp2_with fail
                go_roundg (n - (k + 1))
                case measure => rw [HG.out]; omega
                case rel => exact ⟨k + 1, rfl, HREL.out.noted hlt HC.out (opX_step HLA.out hbb HKF.out) ((Below.refl _ _).drew.trans HBZ.out) HMZ.out⟩
          · have HKF : Hid ((O k).kind = kindOf false) := by simpa [Hid, kindOf] using hk2
            have HN8 : Hid (8 * k ≤ 1000000000000) := by unfold Hid; omega
            have hk3 : ((O k).kind == 3) = false := by have := HKF.out; rw [this]; rfl
            go_wp2_with fail
            go_region_with (go_at_call 25; refine (note_any wr.drew w4.heap.size (8 * k) A R _ _ false (HM.out.heap rfl) hit HN8.out HC.out.quiet).mono ?_; rintro e wz ⟨rfl, hbz, hmz⟩; have HBZ := hid hbz; have HMZ := hid hmz; have p0 := (HAT.out.below (HB.out.trans ((Below.refl _ _).drew.trans hbz)) hb).2.2.1; clear hbz hmz)
            all_goals
              go_wp2_with fail
              go_roundg (n - (k + 1))
              case measure => rw [HG.out]; omega
              case rel => exact ⟨k + 1, rfl, HREL.out.noted hlt HC.out (opX_step HLA.out hbb HKF.out) ((Below.refl _ _).drew.trans HBZ.out) HMZ.out⟩
    · obtain rfl : k = n := by omega
      obtain ⟨e1, e2⟩ := HC.out.unique HCE.out
      subst e1; subst e2
      have C := hid (matches_any wr w4.heap.size (8 * k) w2.heap.size cc A R HM.out (HCM4.out.congr (HB.out.block _ HCM4.out.lt)) (by omega) (fun it hsome => by
        have h1 := HC.out.all it
        obtain ⟨p, hp⟩ := Option.isSome_iff_exists.1 hsome
        rw [hp] at h1
        obtain ⟨⟨f, j, _, hj, _, _, _, he, _⟩, _⟩ := h1
        rw [he]; exact HSZ.out j hj))
      go_wp2_with fail
      refine C.out.mono ?_
      rintro e w6 ⟨rfl, hb6⟩
      have HB6 := hid hb6
      clear hb6
      go_wp2_with fail
      go_ret
      have hb7 := HB.out.trans (HB6.out.mono HB.out.size)
      exact ⟨rfl, HB4.out.trans (hb7.mono HB4.out.size)⟩

end Go.Proofs.Qxb6617267a
