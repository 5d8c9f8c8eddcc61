/-
  FnDynamicTargetOuterFirst: the walk.
-/
import Derived.Test.Qxb6616843aTgt
import Derived.Deep.RegionWith
namespace Go.Proofs.Qxb6616843a
open Go.ChangeShapes Go.WideShapes Go.ChangeAt Go.RowKit
set_option linter.unusedVariables false

theorem IsBinds.below {w w' : World} {a : Option Addr} {n : Nat} {R A : Nat → ByteArray} (h : IsBinds w a n R A) (hb : Below w.heap.size w w') : IsBinds w' a n R A := by
  refine ⟨h.1, fun i hi => ?_⟩
  obtain ⟨b, off, e, hlt, h1, h2, h3⟩ := h.2 i hi
  exact ⟨b, off, e, Nat.lt_of_lt_of_le hlt hb.size, by rw [hb.cell (p := ⟨b, off + i * 2, none⟩) hlt]; exact h1, by rw [hb.cell (p := ⟨b, off + i * 2 + 1, none⟩) hlt]; exact h2, h3⟩
theorem IsStrs.below {w w' : World} {a : Option Addr} {n : Nat} {S : Nat → ByteArray} (h : IsStrs w a n S) (hb : Below w.heap.size w w') : IsStrs w' a n S := by
  refine ⟨h.1, fun i hi => ?_⟩
  obtain ⟨b, off, e, hlt, h1, h3⟩ := h.2 i hi
  exact ⟨b, off, e, Nat.lt_of_lt_of_le hlt hb.size, by rw [hb.cell (p := ⟨b, off + i, none⟩) hlt]; exact h1, h3⟩
theorem Step.binds {B : Nat} {w w' : World} (h : Step B w w') {a : Option Addr} {n : Nat} {R A : Nat → ByteArray} (hS : IsBinds w a n R A) : IsBinds w' a n R A := by
  refine ⟨hS.1, fun i hi => ?_⟩
  obtain ⟨b, off, e, hb, hc, hc2, hs⟩ := hS.2 i hi
  exact ⟨b, off, e, Nat.lt_of_lt_of_le hb h.below.size, h.cell hc, h.cell hc2, hs⟩

/-- A schema just made: nothing is bound. -/
theorem Dyn.start (w : World) : Dyn ((w.alloc (.map #[] 0)).alloc (.cells #[.pointer none, .map (some w.heap.size), .bool false] 53)) w.heap.size (w.heap.size + 1) w.heap.size 0 0 (fun _ => none) (fun _ _ => none) := by
  refine ⟨by omega, ?_, Nat.le_refl _, ⟨_, 0, Nat.le_refl _, (VMap.made Try.prog 9 w).alloc _, fun r => rfl⟩, (fun r b h => by cases h), (fun r r' b h => by cases h), fun _ _ _ => rfl, (fun r a x h => by cases h)⟩
  rw [World.cell?_alloc_at _ _ _ _ (by simp)]
  rfl
theorem Dyn.drew {w : World} {B sb M cnt lim : Nat} {I : ByteArray → Option Nat} {G : ByteArray → ByteArray → Option Nat} (h : Dyn w B sb M cnt lim I G) : Dyn w.drew B sb M cnt lim I G := h.drewN 1
theorem Step.drew {B : Nat} (w : World) : Step B w w.drew := Step.drewN w 1

theorem tgt_law {g : Nat → Option Nat} {k0 n ini xn tp tq : Nat} (hk : k0 < n) (hx : g k0 = some xn) (hne : ∀ i t, g i = some t → t ≠ ini) (hp : IsTgt g k0 ini tp) (hq : IsTgt g n ini tq) : (tp = ini ∧ tq = xn) ∨ (tp ≠ ini ∧ tq = tp) := by
  rcases hp with ⟨i, hi, hgi, hmin⟩ | ⟨hall, rfl⟩
  · refine Or.inr ⟨hne i tp hgi, ?_⟩
    rcases hq with ⟨j, hj, hgj, hmin'⟩ | ⟨hall', _⟩
    · rcases Nat.lt_trichotomy i j with h | h | h
      · rw [hmin' i h] at hgi; cases hgi
      · subst h; rw [hgi] at hgj; cases hgj; rfl
      · rw [hmin j h] at hgj; cases hgj
    · rw [hall' i (by omega)] at hgi; cases hgi
  · refine Or.inl ⟨rfl, ?_⟩
    rcases hq with ⟨j, hj, hgj, hmin'⟩ | ⟨hall', _⟩
    · rcases Nat.lt_trichotomy k0 j with h | h | h
      · rw [hmin' k0 h] at hx; cases hx
      · subst h; rw [hx] at hgj; cases hgj; rfl
      · rw [hall j h] at hgj; cases hgj
    · rw [hall' k0 hk] at hx; cases hx

theorem info66 : ∃ j, Try.prog.info? 66 = some j ∧ j.size ≠ 0 := by
  have h : (Try.prog.info? 66).map (fun i => i.size != 0) = some true := by kernel_rfl
  obtain ⟨i, hi, hzz⟩ := Option.map_eq_some_iff.1 h
  exact ⟨i, hi, by simpa using hzz⟩

theorem ptr37_same (a : Nat) (w : World) : (binOp .eql 37 (.pointer (some ⟨a, 0, none⟩)) (.pointer (some ⟨a, 0, none⟩))).run Try.prog w = .ok (.bool true) w := by
  obtain ⟨j, hj, hs⟩ := info66
  exact run_eql_ptr_same w _ Try.underlying37 hj
theorem ptr37_other {a b : Nat} {w : World} (ha : IsNode w a) (hb : IsNode w b) (hne : a ≠ b) : (binOp .eql 37 (.pointer (some ⟨a, 0, none⟩)) (.pointer (some ⟨b, 0, none⟩))).run Try.prog w = .ok (.bool false) w := by
  obtain ⟨j, hj, hs⟩ := info66
  obtain ⟨C, hC⟩ := ha
  obtain ⟨D, hD⟩ := hb
  exact run_eql_ptr_other w Try.underlying37 hj hs (fun e => hne (by cases e; rfl)) hC hD

theorem IsStrs.take {w : World} {a : Option Addr} {n m : Nat} {S : Nat → ByteArray} (h : IsStrs w a n S) (hm : m ≤ n) : IsStrs w a m S := ⟨Nat.le_trans hm h.1, fun i hi => h.2 i (by omega)⟩

theorem newState_dyn {w : World} {B sb M cnt lim : Nat} {I : ByteArray → Option Nat} {G : ByteArray → ByteArray → Option Nat} (h : Dyn w B sb M cnt lim I G) (hB : B ≤ w.heap.size) (a : Option Addr) (n c : Nat) :
    Calls Try.prog 23 #[.pointer (some ⟨sb, 0, none⟩), .slice a n c] w fun e w' => e = .returned (.pointer (some ⟨w.heap.size, 0, none⟩)) ∧ Step B w w' ∧ Dyn w' B sb M cnt lim I G ∧ w'.cell? ⟨w.heap.size, 0, none⟩ = some (.pointer (some ⟨sb, 0, none⟩)) ∧ w'.cell? ⟨w.heap.size, 4, none⟩ = some (.slice a n c) := by
  refine (newState_any _ a n c w).mono ?_
  rintro e w' ⟨rfl, v1, v2, v3, v5, v6, rfl⟩
  exact ⟨rfl, Step.alloc hB _, h.alloc hB _, by rw [World.cell?_alloc_at _ _ _ _ rfl]; rfl, by rw [World.cell?_alloc_at _ _ _ _ rfl]; rfl⟩

/-- The head of the loop over the bindings: k are bound. -/
structure Bound (W : World) (n : Nat) (sb M : Nat) (k : Nat) (i : Value) (wr : World) : Prop where
  le : k ≤ n
  i : i = .int .i64 k
  step : Step W.heap.size W wr
  dyn : ∃ I G, Dyn wr W.heap.size sb M k k I G

set_option maxRecDepth 100000 in
set_option maxHeartbeats 4000000 in
theorem outer_walk (a : Option Addr) (n c : Nat) (S : Nat → ByteArray) (a' : Option Addr) (n' c' : Nat) (R A : Nat → ByteArray) (x : ByteArray) (kk : Int) (w : World) (hS : IsStrs w a n S) (hB : IsBinds w a' n' R A) (hx : x.size ≤ maxLen) :
    Calls Try.prog 5 #[.slice a n c, .slice a' n' c', .string x, .int .i64 kk] w fun e w' => e = .returned (.bool true) ∧ Below w.heap.size w w' := by
  have HS := hid hS
  have HBd := hid hB
  have HX := hid hx
  clear hS hB hx
  go_enter Try.func5, Try.ntmps5
  go_wp2_with fail
  refine (bytesOuter_any a n c S a' n' c' R A x kk w HS.out HBd.out).mono ?_
  rintro e w' ⟨r, rfl, rfl⟩
  cases r
  · go_wp2_with fail
    go_ret
    exact ⟨rfl, Below.refl _ _⟩
  by_cases h1 : (4096 : Int) < (n : Int)
  · go_wp2_with fail
    go_ret
    exact ⟨rfl, Below.refl _ _⟩
  by_cases h2 : (4096 : Int) < (n' : Int)
  · go_wp2_with fail
    go_ret
    exact ⟨rfl, Below.refl _ _⟩
  by_cases h3 : (1048576 : Int) < (x.size : Int)
  · go_wp2_with fail
    go_ret
    exact ⟨rfl, Below.refl _ _⟩
  go_wp2_with fail
  refine (dtOver_any a n c S a' n' c' R A x _ w HS.out HBd.out).mono ?_
  rintro e w' ⟨r, rfl, rfl⟩
  cases r
  rotate_left
  · go_wp2_with fail
    go_ret
    exact ⟨rfl, Below.refl _ _⟩
  by_cases h4 : kk < 0
  · go_wp2_with fail
    go_ret
    exact ⟨rfl, Below.refl _ _⟩
  by_cases h5 : (n : Int) ≤ kk
  · go_wp2_with fail
    go_ret
    exact ⟨rfl, Below.refl _ _⟩
  obtain ⟨k0, rfl⟩ : ∃ k0 : Nat, kk = (k0 : Int) := ⟨kk.toNat, by omega⟩
  go_wp2_with fail
  refine (cloneStrs_any a n c S w HS.out (by omega)).mono ?_
  rintro e w1 ⟨a1, c1, rfl, hcap, hs1, hb1⟩
  have HCAP := hid hcap
  clear hcap
  have HS1 := hid hs1
  have HB1 := hid hb1
  clear hs1 hb1
  go_wp2_with fail
  refine (cloneBinds_any a' n' c' R A w1 (HBd.out.below HB1.out) (by omega)).mono ?_
  rintro e w2 ⟨a2, c2, rfl, hs2, hb2⟩
  have HS2 := hid hs2
  have HS1' := hid (HS1.out.below hb2)
  have HB2 := hid (HB1.out.trans (hb2.mono HB1.out.size))
  clear hs2 hb2 HS1 HB1 HS HBd
  go_wp2_with fail
  refine (newSchema_any w2).mono ?_
  rintro e w3 ⟨rfl, rfl⟩
  have HD0 := hid (Dyn.start w2)
  have HST0 := hid ((Step.alloc (Nat.le_refl w2.heap.size) (.map #[] 0)).trans (Step.alloc (B := w2.heap.size) (w := w2.alloc (.map #[] 0)) (by simp) (.cells #[.pointer none, .map (some w2.heap.size), .bool false] 53)))
  go_wp2_with fail
  go_loopg [10] n' (fun g i wr => ∃ k, g = n' - k ∧ Bound w2 n' (w2.heap.size + 1) w2.heap.size k i wr)
  case atStart => exact ⟨0, rfl, Nat.zero_le _, rfl, HST0.out, _, _, HD0.out⟩
  case round =>
    obtain ⟨k, hg, hk, rfl, hst, I, G, hd⟩ := hrel
    have HG := hid hg
    have HST := hid hst
    have HD := hid hd
    clear hg hst hd
    by_cases hlt : k < n'
    · obtain ⟨b, off, rfl, hb, hc1, hc2, hr, ha⟩ := HS2.out.2 k hlt
      have hr1 := HST.out.cell hc1
      have hr2 := HST.out.cell hc2
      have HR := hid hr
      have HA := hid ha
      clear hc1 hc2 hr ha
      go_wp2_with fail
      refine (newNode_any _ wr).mono ?_
      rintro e wx ⟨rfl, C, rfl⟩
      have hB : w2.heap.size ≤ wr.heap.size := HST.out.below.size
      have st1 := Step.alloc (B := w2.heap.size) hB (.cells C 66)
      have hq1 := st1.cell hr1
      have hq2 := st1.cell hr2
      have HST1 := hid st1
      clear st1
      go_wp2_with fail
      refine (ensure_any (HD.out.alloc hB (.cells C 66)) (by simp; omega) (R k) HR.out (by unfold maxLen; omega)).mono ?_
      rintro e wy ⟨rfl, st2, I', hd2, hI'⟩
      have hp1 := st2.cell hq1
      have hp2 := st2.cell hq2
      have HST2 := hid ((HST.out.trans HST1.out).trans st2)
      have HN := hid ((IsNode.made wr C).step st2)
      have HD2 := hid hd2
      have HI2 := hid hI'
      clear st2 hd2 hI' hr1 hr2 hq1 hq2
      go_wp2_with fail
      go_region_with (go_at_call 20; refine (set_any (w := wy.drew) HD2.out.drew _ _ _ HR.out HA.out (by unfold maxLen; omega) HI2.out HN.out).mono ?_; rintro e wz ⟨rfl, st3, hd3⟩; have HST3 := hid st3; have HD3 := hid hd3; clear st3 hd3)
      all_goals
        go_wp2_with fail
        go_roundg (n' - (k + 1))
        case measure => rw [HG.out]; omega
        case rel => exact ⟨k + 1, rfl, by omega, by go_num, (HST2.out.trans (Step.drew wy)).trans HST3.out, _, _, HD3.out⟩
    · obtain rfl : k = n' := by omega
      have hB : w2.heap.size ≤ wr.heap.size := HST.out.below.size
      obtain ⟨b, off, rfl, hb, hc1, hsl⟩ := HS1'.out.2 k0 (by omega)
      have HSL := hid hsl
      have HC1 := hid hc1
      clear hsl hc1
      go_wp2_with fail
      refine (newNode_any _ wr).mono ?_
      rintro e wx ⟨rfl, C, rfl⟩
      go_wp2_with fail
      refine (newRef_any _ _ _).mono ?_
      rintro e wx ⟨rfl, rfl⟩
      go_wp2_with fail
      refine (newNode_any _ _).mono ?_
      rintro e wx ⟨rfl, C2, rfl⟩
      have HD3 := hid (((HD.out.alloc hB (.cells C 66)).alloc (by simp; omega) (.cells #[.pointer (some ⟨wr.heap.size, 0, none⟩), .string x] 69)).alloc (by simp; omega) (.cells C2 66))
      have HST3 := hid (((Step.alloc hB (.cells C 66)).trans (Step.alloc (B := w2.heap.size) (w := wr.alloc (.cells C 66)) (by simp; omega) (.cells #[.pointer (some ⟨wr.heap.size, 0, none⟩), .string x] 69))).trans (Step.alloc (B := w2.heap.size) (w := (wr.alloc (.cells C 66)).alloc (.cells #[.pointer (some ⟨wr.heap.size, 0, none⟩), .string x] 69)) (by simp; omega) (.cells C2 66)))
      obtain ⟨W, hW⟩ : ∃ W, W = ((wr.alloc (.cells C 66)).alloc (.cells #[.pointer (some ⟨wr.heap.size, 0, none⟩), .string x] 69)).alloc (.cells C2 66) := ⟨_, rfl⟩
      have hini : IsNode W wr.heap.size := by
        rw [hW]
        exact ((IsNode.made wr C).step (Step.alloc (B := 0) (Nat.zero_le _) _)).step (Step.alloc (B := 0) (Nat.zero_le _) _)
      have hxn : IsNode W (wr.heap.size + 1 + 1) := by
        rw [hW]
        have := IsNode.made ((wr.alloc (.cells C 66)).alloc (.cells #[.pointer (some ⟨wr.heap.size, 0, none⟩), .string x] 69)) C2
        simpa using this
      have hd0 : W.cell? ⟨wr.heap.size + 1, 0, none⟩ = some (.pointer (some ⟨wr.heap.size, 0, none⟩)) := by
        rw [hW, World.cell?_alloc_past _ _ _ (by simp), World.cell?_alloc_at _ _ _ _ (by simp)]; rfl
      have hd1 : W.cell? ⟨wr.heap.size + 1, 1, none⟩ = some (.string x) := by
        rw [hW, World.cell?_alloc_past _ _ _ (by simp), World.cell?_alloc_at _ _ _ _ (by simp)]; rfl
      have hsc : W.cell? ⟨b, off + k0, none⟩ = some (.string (S k0)) := by
        rw [hW]; exact HST3.out.cell (HST.out.cell HC1.out)
      have hWs : w2.heap.size ≤ W.heap.size := by rw [hW]; simp; omega
      have HSTW := hid (HST.out.trans HST3.out)
      rw [← hW] at HD3 HSTW
      have HINI := hid hini
      have HXN := hid hxn
      have HD0' := hid hd0
      have HD1' := hid hd1
      clear hini hxn hd0 hd1 HST3
      rw [← hW]
      clear hW
      go_wp2_with fail
      refine (ensure_any HD3.out hWs (S k0) HSL.out (by unfold maxLen; omega)).mono ?_
      rintro e wy ⟨rfl, st2, I', hd2, hI'⟩
      have hsc2 := st2.cell hsc
      have HST2 := hid st2
      have HD2 := hid hd2
      have HI2 := hid hI'
      clear st2 hd2 hI' hsc
      go_wp2_with fail
      refine (set_any HD2.out (S k0) x (wr.heap.size + 1 + 1) HSL.out HX.out (by unfold maxLen; omega) HI2.out (HXN.out.step HST2.out)).mono ?_
      rintro e wz ⟨rfl, st3, hd3⟩
      have HST4 := hid (HST2.out.trans st3)
      have HD4 := hid hd3
      have HD00 := hid ((HST2.out.trans st3).cell HD0'.out)
      have HD01 := hid ((HST2.out.trans st3).cell HD1'.out)
      have HIN := hid (HINI.out.step (HST2.out.trans st3))
      have HXX := hid (HXN.out.step (HST2.out.trans st3))
      have hzs : w2.heap.size ≤ wz.heap.size := Nat.le_trans hWs (HST2.out.trans st3).below.size
      have HG' := hid (fun i t (h : updG G (S k0) x (wr.heap.size + 1 + 1) (S i) x = some t) => show t ≠ wr.heap.size from by
        unfold updG at h
        split at h
        · cases h; omega
        · obtain ⟨C, hC⟩ := HD.out.nodes _ _ _ h
          have := lt_of_heap hC
          omega)
      have hk0 : k0 ≤ c1 := by have := HCAP.out; omega
      have HFIN := hid (HSTW.out.trans HST4.out)
      have HSS := hid (HFIN.out.strs HS1'.out)
      clear st3 hd3 HST HD HG HD3 HST2 HD2 HI2 HINI HXN HD0' HD1' hsc2
      go_wp2_with fail
      refine (newState_dyn HD4.out hzs _ k0 c1).mono ?_
      rintro e v1 ⟨rfl, st5, hd5, hc0, hc4⟩
      have HV1 := hid (HFIN.out.trans st5)
      have hv1s : w2.heap.size ≤ v1.heap.size := HV1.out.below.size
      have HD5 := hid hd5
      have HC0 := hid hc0
      have HC4 := hid hc4
      have HE0 := hid (st5.cell HD00.out)
      have HE1 := hid (st5.cell HD01.out)
      have HIN5 := hid (HIN.out.step st5)
      have HXX5 := hid (HXX.out.step st5)
      have HSS5 := hid (st5.strs HSS.out)
      clear st5 hd5 hc0 hc4 HFIN HD4 HD00 HD01 HIN HXX HSS HSTW HST4
      cases hxe : x.toList.isEmpty
      · go_wp2_with fail
        refine (zzTarget_any _ _ _ k0 c1 S x wr.heap.size v1 hxe HX.out HD5.out (HSS5.out.take (by omega)) HC0.out HC4.out HE0.out HE1.out).mono ?_
        rintro e v2 ⟨tp, rfl, hp, m1, rfl⟩
        have HP := hid hp
        clear hp
        go_wp2_with fail
        refine (newState_dyn (HD5.out.drewN m1) hv1s _ n c1).mono ?_
        rintro e v3 ⟨rfl, st6, hd6, hc0, hc4⟩
        have HV3 := hid ((HV1.out.trans (Step.drewN v1 m1)).trans st6)
        have HD6 := hid hd6
        have HC0' := hid hc0
        have HC4' := hid hc4
        have HF0 := hid (st6.cell HE0.out)
        have HF1 := hid (st6.cell HE1.out)
        have HIN6 := hid (HIN5.out.step ((Step.drewN v1 m1).trans st6))
        have HXX6 := hid (HXX5.out.step ((Step.drewN v1 m1).trans st6))
        have HSS6 := hid (st6.strs ((Step.drewN (B := w2.heap.size) v1 m1).strs HSS5.out))
        clear st6 hd6 hc0 hc4
        go_wp2_with fail
        refine (zzTarget_any _ _ _ n c1 S x wr.heap.size v3 hxe HX.out HD6.out HSS6.out HC0'.out HC4'.out HF0.out HF1.out).mono ?_
        rintro e v4 ⟨tq, rfl, hq, m2, rfl⟩
        have HL := tgt_law (xn := wr.heap.size + 1 + 1) (g := fun i => updG G (S k0) x (wr.heap.size + 1 + 1) (S i) x) (by omega) (by simp [updG]) HG'.out HP.out hq
        have HNP : IsNode v3 tp := by
          rcases HP.out with ⟨i, _, hgi, _⟩ | ⟨_, rfl⟩
          · exact HD6.out.nodes _ _ _ hgi
          · exact HIN6.out
        have HNP' := hid HNP
        clear HNP hq
        have HBEL := hid (HB2.out.trans (HV3.out.below.mono HB2.out.size))
        rcases HL with ⟨h1', h2'⟩ | ⟨h1', h2'⟩
        · subst h1' h2'
          have e1 := ptr37_same wr.heap.size
          have e2 := ptr37_same (wr.heap.size + 1 + 1)
          go_wp2_with fail
          go_ret
          exact ⟨rfl, below_drewN HBEL.out _⟩
        · subst h2'
          have e1 := ptr37_same tq
          have e2 : ∀ q, (binOp .eql 37 (.pointer (some ⟨tq, 0, none⟩)) (.pointer (some ⟨wr.heap.size, 0, none⟩))).run Try.prog (v3.drewN q) = .ok (.bool false) (v3.drewN q) := fun q => ptr37_other (w := v3.drewN q) HNP'.out HIN6.out h1'
          have H1' := hid h1'
          clear h1'
          go_wp2_with fail
          go_ret
          exact ⟨rfl, below_drewN HBEL.out _⟩
      · go_wp2_with fail
        refine (zzTarget_empty _ _ x wr.heap.size v1 hxe HE0.out HE1.out).mono ?_
        rintro e v2 ⟨rfl, rfl⟩
        go_wp2_with fail
        refine (newState_dyn HD5.out hv1s _ n c1).mono ?_
        rintro e v3 ⟨rfl, st6, hd6, hc0, hc4⟩
        have HV3 := hid (HV1.out.trans st6)
        have HF0 := hid (st6.cell HE0.out)
        have HF1 := hid (st6.cell HE1.out)
        clear st6 hd6 hc0 hc4
        go_wp2_with fail
        refine (zzTarget_empty _ _ x wr.heap.size v3 hxe HF0.out HF1.out).mono ?_
        rintro e v4 ⟨rfl, rfl⟩
        have e1 := ptr37_same wr.heap.size
        have HBEL := hid (HB2.out.trans (HV3.out.below.mono HB2.out.size))
        go_wp2_with fail
        go_ret
        exact ⟨rfl, HBEL.out⟩

end Go.Proofs.Qxb6616843a
