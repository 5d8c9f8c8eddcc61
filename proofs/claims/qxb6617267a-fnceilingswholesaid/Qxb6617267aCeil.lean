/-
  'ceilings' and 'ZZCeilings': by their contract.
-/
import Derived.Test.Qxb6617267aCst
import Derived.Test.Qxb6617267aWhole
namespace Go.Proofs.Qxb6617267a
open Go.ChangeShapes Go.WideShapes Go.ChangeAt Go.RowKit
set_option linter.unusedVariables false
set_option linter.unusedSimpArgs false

/-- The contributions of declarations. -/
def declX (blk : Int → Option Nat) (pr : Int → Int) (L : Int × Bool → List ByteArray) (it : ByteArray) (p : Int) (f : Bool) : Prop := ∃ t, (blk t).isSome = true ∧ p = pr t ∧ it ∈ L (t, f)

/-- Those of the declarations that have come. -/
def leftX (blk : Int → Option Nat) (pr : Int → Int) (L : Int × Bool → List ByteArray) (left : Lit → Bool) (it : ByteArray) (p : Int) (f : Bool) : Prop := ∃ t, (blk t).isSome = true ∧ left (uk t) = false ∧ p = pr t ∧ it ∈ L (t, f)

/-- And some of one more. -/
def moreX (X : ByteArray → Int → Bool → Prop) (q : Int) (g : Bool) (T : List ByteArray) (k : Nat) (it : ByteArray) (p : Int) (f : Bool) : Prop := X it p f ∨ (p = q ∧ f = g ∧ it ∈ T.take k)

structure CeilR (w : World) (M cnt : Nat) (D : DataW Value) (left : Lit → Bool) (cl : Nat) (X : ByteArray → Int → Bool → Prop) (bd : Nat) (wr : World) : Prop where
  below : Below w.heap.size w wr
  rg : wr.ranges Try.prog 38 Rv M (w.heap.size + 2) cnt D left cl
  q : wr.heap[w.heap.size + 1]? = some (.cells #[.map (some w.heap.size)] 50 (0, 0))
  map : ∃ c A R, c ≤ bd ∧ CMap wr w.heap.size c A R ∧ Cei X A R

theorem CeilR.ext {w : World} {M cnt : Nat} {D : DataW Value} {left : Lit → Bool} {cl : Nat} {X Y : ByteArray → Int → Bool → Prop} {bd bd' : Nat} {wr : World} (h : CeilR w M cnt D left cl X bd wr) (hb : bd ≤ bd') (e : ∀ i p f, X i p f ↔ Y i p f) : CeilR w M cnt D left cl Y bd' wr := by
  obtain ⟨c, A, R, hc, hm, hC⟩ := h.map
  exact ⟨h.below, h.rg, h.q, c, A, R, by omega, hm, hC.iff e⟩

theorem ranges_congr {w w' : World} {b r n cl : Nat} {D : DataW Value} {left : Lit → Bool} (h : w.ranges Try.prog 38 Rv b r n D left cl) (hb : w'.heap[b]? = w.heap[b]?) (hr : w'.heap[r]? = w.heap[r]?) : w'.ranges Try.prog 38 Rv b r n D left cl := by
  obtain ⟨es, clock, since, seen, c0, h1, F, hs, hD, h2, rest⟩ := h
  exact ⟨es, clock, since, seen, c0, hb.trans h1, F, hs, hD, hr.trans h2, rest⟩

theorem CeilR.raised {w : World} {M cnt : Nat} {D : DataW Value} {left : Lit → Bool} {cl : Nat} {X : ByteArray → Int → Bool → Prop} {bd : Nat} {wr w' : World} (h : CeilR w M cnt D left cl X bd wr) (hM : M < w.heap.size) {c : Nat} {A R : ByteArray → Option Int} (hc : c ≤ bd) (hC : Cei X A R) {it : ByteArray} {p : Int} {f : Bool}
    (hr : Raised wr w' w.heap.size c A R it p f) : CeilR w M cnt D left cl (fun i q g => X i q g ∨ (i = it ∧ q = p ∧ g = f)) (bd + 1) w' := by
  have hs := h.below.size
  have h2 := h.rg.lt
  obtain ⟨c', hc', hm'⟩ := hr.map
  exact ⟨hr.below _ _ h.below (Nat.le_refl _), ranges_congr h.rg (hr.same _ (by omega) (by omega)) (hr.same _ (by omega) (by omega)), (hr.same _ (by omega) (by omega)).trans h.q, c', _, _, by omega, hm', hC.add it p f⟩

theorem moreX_step {X : ByteArray → Int → Bool → Prop} {q : Int} {g : Bool} {T : List ByteArray} {k : Nat} (hk : k < T.length) (i : ByteArray) (p : Int) (f : Bool) :
    (moreX X q g T k i p f ∨ (i = T.getD k ByteArray.empty ∧ p = q ∧ f = g)) ↔ moreX X q g T (k + 1) i p f := by
  have e : T.take (k + 1) = T.take k ++ [T.getD k ByteArray.empty] := by
    rw [List.take_add_one]
    simp [List.getD_eq_getElem?_getD, hk]
  unfold moreX
  rw [e]
  simp only [List.mem_append, List.mem_singleton]
  constructor
  · rintro ((h | h) | h)
    · exact Or.inl h
    · exact Or.inr ⟨h.1, h.2.1, Or.inl h.2.2⟩
    · exact Or.inr ⟨h.2.1, h.2.2, Or.inr h.1⟩
  · rintro (h | ⟨h1, h2, h3 | h3⟩)
    · exact Or.inl (Or.inl h)
    · exact Or.inl (Or.inr ⟨h1, h2, h3⟩)
    · exact Or.inr ⟨h3, h1, h2⟩

/-- An entry has come, and both its lists have been told. -/
theorem leftX_step {blk : Int → Option Nat} {pr : Int → Int} {L : Int × Bool → List ByteArray} {left : Lit → Bool} {x : Int} (hx : (blk x).isSome = true) (i : ByteArray) (p : Int) (f : Bool) :
    moreX (moreX (leftX blk pr L left) (pr x) false (L (x, false)) (L (x, false)).length) (pr x) true (L (x, true)) (L (x, true)).length i p f ↔ leftX blk pr L (fun z => left z && !z.sameKey (uk x)) i p f := by
  unfold moreX leftX
  rw [List.take_length, List.take_length]
  constructor
  · rintro ((⟨t, h1, h2, h3, h4⟩ | ⟨h1, h2, h3⟩) | ⟨h1, h2, h3⟩)
    · exact ⟨t, h1, by simp [h2], h3, h4⟩
    · subst h2
      exact ⟨x, hx, by show (left (uk x) && !(uk x).sameKey (uk x)) = false; rw [uk_same]; simp, h1, h3⟩
    · subst h2
      exact ⟨x, hx, by show (left (uk x) && !(uk x).sameKey (uk x)) = false; rw [uk_same]; simp, h1, h3⟩
  · rintro ⟨t, h1, h2, h3, h4⟩
    have h2 : (left (uk t) && !(uk t).sameKey (uk x)) = false := h2
    rw [uk_same] at h2
    by_cases e : t = x
    · subst e
      cases f
      · exact Or.inl (Or.inr ⟨h3, rfl, h4⟩)
      · exact Or.inr ⟨h3, rfl, h4⟩
    · simp [e] at h2
      exact Or.inl (Or.inl ⟨t, h1, h2, h3, h4⟩)

/-- A bound of the map's entries. -/
def bdOf (cnt g : Nat) : Nat := (cnt - g) * 131072
theorem bdOf_step {cnt g g1 : Nat} (h : g1 < g) (hg : g ≤ cnt) : bdOf cnt g + 131072 ≤ bdOf cnt g1 := by unfold bdOf; omega
theorem bdOf_le {cnt g : Nat} (h : cnt ≤ 16384) : bdOf cnt g ≤ 2147483648 := by unfold bdOf; omega
theorem small_lt {c b k m : Nat} (h : c ≤ b + k) (hb : b ≤ 2147483648) (hk : k ≤ 131072) : c < maxLen := by unfold maxLen; omega

theorem cell_below {w wr : World} {a : Addr} {v : Value} (h : w.cell? a = some v) (hb : Below w.heap.size w wr) : wr.cell? a = some v := by
  have hlt : a.block < w.heap.size := by
    refine Nat.lt_of_not_le (fun hle => ?_)
    rw [World.cell?, Array.getElem?_eq_none hle] at h
    cases h
  rw [World.cell?_of_block (hb.block _ hlt)]
  exact h

set_option maxRecDepth 100000 in
set_option maxHeartbeats 4000000 in
theorem ceilings_any (w : World) (B M cnt : Nat) (blk : Int → Option Nat) (pr : Int → Int) (V : Int × Bool → Value) (L : Int × Bool → List ByteArray) (hD : Decls w B M cnt blk pr V L) (hcnt : cnt ≤ 16384) (hL : ∀ x, (L x).length ≤ 65536) (hsz : ∀ x it, it ∈ L x → it.size ≤ maxLen) :
    Calls Try.prog 32 #[.map (some M)] w fun e w' => e = .returned (.map (some w.heap.size)) ∧ Below w.heap.size w w' ∧ ∃ c A R, CMap w' w.heap.size c A R ∧ Cei (declX blk pr L) A R := by
  have HD := hid hD
  have HL := hid hL
  have HSZ := hid hsz
  obtain ⟨F, ⟨D, hown, hds, hget⟩, hF⟩ := hD.map
  have HF := hid hF
  have HGET := hid hget
  have HM := hid hown.lt
  have hmm := @run_makeMap Try.prog
  have hmf : ∀ (fn : Fn) (first cap : Array Value) (w : World), (Instr.makeFunc fn first cap).run Try.prog w = .ok (.func fn first cap) w := fun _ _ _ _ => rfl
  have hown2 := (hown.alloc (.map #[] 0)).alloc (.cells #[.map (some w.heap.size)] 50)
  clear hD hL hsz hF hget
  go_enter Try.func32, Try.ntmps32
  go_wp2_with (first
    | (at_range; refine wpList_range_own _ rfl _ 25 rfl 38 37 law38 Try.underlying25 _ M cnt _ rfl hown2 ?_; intro w0 hrg0 hg0 hs0)
    | go_in)
  have e2 : ((w.alloc (Obj.map #[] 0)).alloc (Obj.cells #[Value.map (some w.heap.size)] 50)).heap.size = w.heap.size + 2 := by simp
  go_frame
  rw [e2] at hrg0 hs0 ⊢
  rw [hds] at hrg0
  have H0 : Hid (CeilR w M cnt D (Maps.has D) cnt (leftX blk pr L (Maps.has D)) 0 w0) := by
    refine ⟨(((Below.refl _ _).alloc (Nat.le_refl _) _).alloc (by simp) _).grown hg0 (by rw [e2]; omega) (fun j hj => by cases hj), hrg0, ?_, 0, fun _ => none, fun _ => none, Nat.le_refl _, ?_, Cei.start.iff (fun i p f => ⟨False.elim, fun ⟨t, h1, h2, _⟩ => ?_⟩)⟩
    · rw [hg0.block _ (by rw [e2]; omega) (by simp)]
      have := heap_alloc_new (w.alloc (Obj.map #[] 0)) (Obj.cells #[Value.map (some w.heap.size)] 50)
      simpa using this
    · refine ⟨fun _ => none, ?_, fun _ => rfl⟩
      exact (((VMap.made Try.prog 9 w).alloc _).kept hg0 (by simp))
    · have hh := HGET.out (uk t)
      rw [HF.out] at hh
      unfold getV at hh
      rw [h2] at hh
      cases hb : blk t with
      | none => rw [hb] at h1; cases h1
      | some b => rw [hb] at hh; simp at hh
  clear hrg0 hg0 hs0 hown hown2 hmm hmf e2
  go_loopg [6] cnt (fun g _ wr => g ≤ cnt ∧ ∃ left, CeilR w M cnt D left g (leftX blk pr L left) (bdOf cnt g) wr)
  case atStart => exact ⟨Nat.le_refl _, _, H0.out.ext (Nat.zero_le _) (fun i p f => Iff.rfl)⟩
  case round =>
    obtain ⟨hg, left, hR⟩ := hrel
    have HR := hid hR
    clear hR H0
    go_wp2_with (first
      | (at_next; refine wpList_next_ranges _ rfl _ rfl 38 law38 Rv (Value.int .u64) (fun v : Value => v) (fun key kl hkey => by obtain ⟨x, rfl, _⟩ := Maps.keyOf_int_inv Try.underlying38 hkey; exact ⟨x, rfl⟩) (fun v y _ => ⟨v, rfl⟩) M (w.heap.size + 2) cnt D left _ rfl HR.out.rg ?_ ?_)
      | go_in)
    · intro hc0 hl0
      have HL0 := hid hl0
      clear hl0
      have hq : wr.cell? ⟨w.heap.size + 1, 0, none⟩ = some (.map (some w.heap.size)) := by simp [World.cell?, HR.out.q]
      go_wp2_with fail
      go_ret
      obtain ⟨c, A, R, hc, hm, hC⟩ := HR.out.map
      exact ⟨rfl, HR.out.below, c, A, R, hm, hC.iff (fun i p f => ⟨fun ⟨t, h1, _, h3⟩ => ⟨t, h1, h3⟩, fun ⟨t, h1, h3⟩ => ⟨t, h1, HL0.out _, h3⟩⟩)⟩
    · intro x c kl y ps w1 cnt1 hkey hlx hRv hat hrg1 hlt hg1 hs1 hen
      obtain ⟨x', ex, rfl, hwx⟩ := Maps.keyOf_int_inv Try.underlying38 hkey
      cases ex
      obtain ⟨b, hbx, rfl⟩ : ∃ b, blk x = some b ∧ c = .pointer (some ⟨b, 0, none⟩) := by
        have e1 := Rv_inv hRv
        subst e1
        have hhas : Maps.has D (uk x) = true := Maps.has_true_of_atKey hat
        have h1 := getV_some hhas hat
        have h2 := HGET.out (uk x)
        rw [h1, HF.out] at h2
        cases hb : blk x with
        | none => rw [hb] at h2; cases h2
        | some b => rw [hb] at h2; exact ⟨b, rfl, by simpa using h2⟩
      have HBX : Hid ((blk x).isSome = true) := by unfold Hid; rw [hbx]; rfl
      have hsz1 := HR.out.below.size
      obtain ⟨bd, hbd⟩ : ∃ bd, bd = bdOf cnt gk := ⟨_, rfl⟩
      obtain ⟨gk0, hgk0⟩ : ∃ gk0, gk0 = gk := ⟨_, rfl⟩
      have HR1 : Hid (CeilR w M cnt D (fun z => left z && !z.sameKey (uk x)) cnt1 (moreX (leftX blk pr L left) (pr x) false (L (x, false)) 0) bd w1) := by
        have hlr := HR.out.rg.lt
        obtain ⟨c, A, R, hc, hm, hC⟩ := HR.out.map
        refine ⟨HR.out.below.grown hg1 hsz1 (fun j hj => by cases hj; omega), hrg1, ?_, c, A, R, by rw [hbd]; exact hc, hm.congr (hg1.block _ (by omega) (by simp)), hC.iff (fun i p f => ⟨Or.inl, fun h => h.resolve_right (fun hh => by simpa using hh.2.2)⟩)⟩
        rw [hg1.block _ (by omega) (by simp)]
        exact HR.out.q
      have HLT : Hid (cnt1 < gk0) := by unfold Hid; omega
      have HGK : Hid (gk0 ≤ cnt) := by unfold Hid; omega
      have HBD : Hid (bd + 131072 ≤ bdOf cnt cnt1) := by unfold Hid; rw [hbd]; exact bdOf_step hlt hg
      have HBB : Hid (bd ≤ 2147483648) := by unfold Hid; rw [hbd]; exact bdOf_le hcnt
      have HGE := hid hgk0
      obtain ⟨hbB, hbc⟩ := HD.out.cell x b hbx
      have HC0 : Hid (w.cell? ⟨b, 0, none⟩ = some (.int .i64 (pr x))) := by simp [Hid, World.cell?, hbc]
      obtain ⟨a1, k1, hV1, hr1⟩ := (HD.out.fam.rows (x, false)).form
      obtain ⟨a2, k2, hV2, hr2⟩ := (HD.out.fam.rows (x, true)).form
      have HC1 : Hid (w.cell? ⟨b, 1, none⟩ = some (.slice a1 (L (x, false)).length k1)) := by simp [Hid, World.cell?, hbc, hV1]
      have HC2 : Hid (w.cell? ⟨b, 2, none⟩ = some (.slice a2 (L (x, true)).length k2)) := by simp [Hid, World.cell?, hbc, hV2]
      have HR1' := hid hr1
      have HR2' := hid hr2
      clear hkey hlx hRv hat hrg1 hlt hg1 hs1 hbB hbc hbx hV1 hV2 hr1 hr2 HR hg hsz1 hgk0 hbd
      have hl1 := HL.out (x, false)
      have hl2 := HL.out (x, true)
      have hc1 := cell_below HC1.out HR1.out.below
      go_wp2_with fail
      clear hen hc1
      go_loopg [25] (L (x, false)).length (fun g i wr => ∃ k, g = (L (x, false)).length - k ∧ k ≤ (L (x, false)).length ∧ i = .int .i64 k ∧ CeilR w M cnt D (fun z => left z && !z.sameKey (uk x)) cnt1 (moreX (leftX blk pr L left) (pr x) false (L (x, false)) k) (bd + k) wr)
      case atStart => exact ⟨0, rfl, Nat.zero_le _, rfl, HR1.out⟩
      case round =>
        obtain ⟨k, hg, hk, rfl, hR⟩ := hrel
        have HG := hid hg
        have HR := hid hR
        clear hg hR HR1
        by_cases hlt : k < (L (x, false)).length
        · obtain ⟨g, rfl, hcg⟩ := HR1'.out k hlt
          have hc1 := cell_below hcg HR.out.below
          have hsz := HSZ.out (x, false) ((L (x, false)).getD k ByteArray.empty) (by simp [List.getD_eq_getElem?_getD, hlt])
          have HST : Hid (∀ i p h, (moreX (leftX blk pr L left) (pr x) false (L (x, false)) k i p h ∨ (i = (L (x, false)).getD k ByteArray.empty ∧ p = pr x ∧ h = false)) ↔ moreX (leftX blk pr L left) (pr x) false (L (x, false)) (k + 1) i p h) := moreX_step hlt
          obtain ⟨s, hs⟩ : ∃ s, s = (L (x, false)).getD k ByteArray.empty := ⟨_, rfl⟩
          rw [← hs] at hc1 hsz HST
          clear hs
          have hc0 := cell_below HC0.out HR.out.below
          have hq : wr.cell? ⟨w.heap.size + 1, 0, none⟩ = some (.map (some w.heap.size)) := by simp [World.cell?, HR.out.q]
          have hql : w.heap.size + 1 < wr.heap.size := lt_of_heap HR.out.q
          obtain ⟨c, A, R, hc, hm, hC⟩ := HR.out.map
          have HC := hid hC
          have HM2 := hid hm
          have HCC : Hid (c < maxLen) := small_lt (m := 0) hc HBB.out (by omega)
          have HCL := hid hc
          clear hC hm hcg hc
          go_wp2_with fail
          refine (raise_any wr (w.heap.size + 1) w.heap.size c A R s (pr x) false hq hql HM2.out HCC.out hsz HC.out.quiet).mono ?_
          rintro e w2 ⟨rfl, hr⟩
          have HRA := hid hr
          clear hr
          go_wp2_with fail
          go_roundg ((L (x, false)).length - (k + 1))
          case measure => rw [HG.out]; omega
          case rel => exact ⟨k + 1, rfl, by omega, by go_num, (HR.out.raised HM.out HCL.out HC.out HRA.out).ext (by omega) HST.out⟩
        · obtain rfl : k = (L (x, false)).length := by omega
          obtain ⟨bd2, hbd2⟩ : ∃ bd2, bd2 = bd + 65536 := ⟨_, rfl⟩
          have HR2 : Hid (CeilR w M cnt D (fun z => left z && !z.sameKey (uk x)) cnt1 (moreX (moreX (leftX blk pr L left) (pr x) false (L (x, false)) (L (x, false)).length) (pr x) true (L (x, true)) 0) bd2 wr) := HR.out.ext (by omega) (fun i p f => ⟨Or.inl, fun h => h.resolve_right (fun hh => by simpa using hh.2.2)⟩)
          have HB2 := hid hbd2
          clear HR HG HR1' hk hbd2
          have hc2 := cell_below HC2.out HR2.out.below
          go_wp2_with fail
          clear hc2
          go_loopg [43] (L (x, true)).length (fun g i wr => ∃ k, g = (L (x, true)).length - k ∧ k ≤ (L (x, true)).length ∧ i = .int .i64 k ∧ CeilR w M cnt D (fun z => left z && !z.sameKey (uk x)) cnt1 (moreX (moreX (leftX blk pr L left) (pr x) false (L (x, false)) (L (x, false)).length) (pr x) true (L (x, true)) k) (bd2 + k) wr)
          case atStart => exact ⟨0, rfl, Nat.zero_le _, rfl, HR2.out⟩
          case round =>
            obtain ⟨k, hg, hk, rfl, hR⟩ := hrel
            have HG := hid hg
            have HR := hid hR
            clear hg hR HR2
            by_cases hlt : k < (L (x, true)).length
            · obtain ⟨g, rfl, hcg⟩ := HR2'.out k hlt
              have hc1 := cell_below hcg HR.out.below
              have hsz := HSZ.out (x, true) ((L (x, true)).getD k ByteArray.empty) (by simp [List.getD_eq_getElem?_getD, hlt])
              have HST : Hid (∀ i p h, (moreX (moreX (leftX blk pr L left) (pr x) false (L (x, false)) (L (x, false)).length) (pr x) true (L (x, true)) k i p h ∨ (i = (L (x, true)).getD k ByteArray.empty ∧ p = pr x ∧ h = true)) ↔ moreX (moreX (leftX blk pr L left) (pr x) false (L (x, false)) (L (x, false)).length) (pr x) true (L (x, true)) (k + 1) i p h) := moreX_step hlt
              obtain ⟨s, hs⟩ : ∃ s, s = (L (x, true)).getD k ByteArray.empty := ⟨_, rfl⟩
              rw [← hs] at hc1 hsz HST
              clear hs
              have hc0 := cell_below HC0.out HR.out.below
              have hq : wr.cell? ⟨w.heap.size + 1, 0, none⟩ = some (.map (some w.heap.size)) := by simp [World.cell?, HR.out.q]
              have hql : w.heap.size + 1 < wr.heap.size := lt_of_heap HR.out.q
              obtain ⟨c, A, R, hc, hm, hC⟩ := HR.out.map
              have HC := hid hC
              have HM2 := hid hm
              have HCC : Hid (c < maxLen) := small_lt (m := 0) (b := bd) (k := 65536 + k) (by rw [HB2.out] at hc; omega) HBB.out (by omega)
              have HCL := hid hc
              clear hC hm hcg hc
              go_wp2_with fail
              refine (raise_any wr (w.heap.size + 1) w.heap.size c A R s (pr x) true hq hql HM2.out HCC.out hsz HC.out.quiet).mono ?_
              rintro e w2 ⟨rfl, hr⟩
              have HRA := hid hr
              clear hr
              go_wp2_with fail
              go_roundg ((L (x, true)).length - (k + 1))
              case measure => rw [HG.out]; omega
              case rel => exact ⟨k + 1, rfl, by omega, by go_num, (HR.out.raised HM.out HCL.out HC.out HRA.out).ext (by omega) HST.out⟩
            · obtain rfl : k = (L (x, true)).length := by omega
              go_wp2_with fail
              go_roundg cnt1
              case measure => have := HLT.out; have := HGE.out; omega
              case rel => exact ⟨by have := HLT.out; have := HGK.out; omega, _, HR.out.ext (by have := HBD.out; rw [HB2.out]; omega) (leftX_step HBX.out)⟩

theorem zzCeilings_any (w : World) (B M cnt : Nat) (blk : Int → Option Nat) (pr : Int → Int) (V : Int × Bool → Value) (L : Int × Bool → List ByteArray) (hD : Decls w B M cnt blk pr V L) (hcnt : cnt ≤ 16384) (hL : ∀ x, (L x).length ≤ 65536) (hsz : ∀ x it, it ∈ L x → it.size ≤ maxLen) :
    Calls Try.prog 23 #[.map (some M)] w fun e w' => e = .returned (.map (some w.heap.size)) ∧ Below w.heap.size w w' ∧ ∃ c A R, CMap w' w.heap.size c A R ∧ Cei (declX blk pr L) A R := by
  have C := hid (ceilings_any w B M cnt blk pr V L hD hcnt hL hsz)
  clear hD hL hsz
  go_enter Try.func23, Try.ntmps23
  go_wp2_with fail
  refine C.out.mono ?_
  rintro e w' ⟨rfl, h⟩
  have H := hid h
  clear h
  go_wp2_with fail
  go_ret
  exact ⟨rfl, H.out⟩

end Go.Proofs.Qxb6617267a
