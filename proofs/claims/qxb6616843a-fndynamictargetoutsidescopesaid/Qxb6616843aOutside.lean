/-
  FnDynamicTargetOutsideScope: the walk.
-/
import Derived.Test.Qxb6616843aWant
import Derived.Deep.CutRange
import Derived.Deep.DeepCutAuto
namespace Go.Proofs.Qxb6616843a
open Go.ChangeShapes Go.WideShapes Go.ChangeAt Go.RowKit
set_option linter.unusedVariables false

theorem str_eq_true {a b : ByteArray} (h : a = b) : (a.toList == b.toList) = true := by subst h; simp
theorem str_eq_false {a b : ByteArray} (h : a ≠ b) : (a.toList == b.toList) = false := by
  simp only [beq_eq_false_iff_ne, ne_eq]
  intro e
  rw [ByteArray.toList_eq, ByteArray.toList_eq] at e
  exact h (bytes_inj e)

theorem IsTgt.congr {g g' : Nat → Option Nat} {n ini t : Nat} (h : IsTgt g n ini t) (e : ∀ i, i < n → g i = g' i) : IsTgt g' n ini t := by
  rcases h with ⟨i, hi, hgi, hm⟩ | ⟨hall, ht⟩
  · exact Or.inl ⟨i, hi, by rw [← e i hi]; exact hgi, fun j hj => by rw [← e j (by omega)]; exact hm j hj⟩
  · exact Or.inr ⟨fun i hi => by rw [← e i hi]; exact hall i hi, ht⟩

theorem zzTarget_both (st d : Nat) (a : Option Addr) (n c : Nat) (S : Nat → ByteArray) (x : ByteArray) (ini : Nat) (w : World) (hxl : x.size ≤ maxLen)
    {B sb M cnt lim : Nat} {I : ByteArray → Option Nat} {G : ByteArray → ByteArray → Option Nat} (h : Dyn w B sb M cnt lim I G) (hS : IsStrs w a n S)
    (s0 : w.cell? ⟨st, 0, none⟩ = some (.pointer (some ⟨sb, 0, none⟩))) (s4 : w.cell? ⟨st, 4, none⟩ = some (.slice a n c))
    (h0 : w.cell? ⟨d, 0, none⟩ = some (.pointer (some ⟨ini, 0, none⟩))) (h1 : w.cell? ⟨d, 1, none⟩ = some (.string x)) :
    Calls Try.prog 22 #[.pointer (some ⟨st, 0, none⟩), .pointer (some ⟨d, 0, none⟩)] w fun e w' => ∃ t, e = .returned (.pointer (some ⟨t, 0, none⟩)) ∧ ((x.toList.isEmpty = true ∧ t = ini) ∨ (x.toList.isEmpty = false ∧ IsTgt (fun i => G (S i) x) n ini t)) ∧ ∃ m, w' = w.drewN m := by
  cases hx : x.toList.isEmpty
  · refine (zzTarget_any st d a n c S x ini w hx hxl h hS s0 s4 h0 h1).mono ?_
    rintro e w' ⟨t, rfl, ht, m, rfl⟩
    exact ⟨t, rfl, Or.inr ⟨rfl, ht⟩, m, rfl⟩
  · refine (zzTarget_empty st d x ini w hx h0 h1).mono ?_
    rintro e w' ⟨rfl, rfl⟩
    exact ⟨ini, rfl, Or.inl ⟨rfl, rfl⟩, 0, rfl⟩

/-- The head of the loop over the bindings. -/
structure BoundX (W : World) (R A : Nat → ByteArray) (n' sb M ini : Nat) (wi : Int) (k : Nat) (want i : Value) (wr : World) : Prop where
  le : k ≤ n'
  i : i = .int .i64 k
  step : Step W.heap.size W wr
  node : IsNode wr ini
  dyn : ∃ I G nb, Dyn wr W.heap.size sb M k k I G ∧ (∀ r a, G r a = (last R A k r a).map nb) ∧ want = .pointer (some ⟨wantB wi k nb ini, 0, none⟩)

set_option maxRecDepth 100000 in
set_option maxHeartbeats 4000000 in
theorem outside_walk (a : Option Addr) (n c : Nat) (S : Nat → ByteArray) (a' : Option Addr) (n' c' : Nat) (R A : Nat → ByteArray) (x y : ByteArray) (w : World) (hS : IsStrs w a n S) (hB : IsBinds w a' n' R A) (hx : x.size ≤ maxLen) (hy : y.size ≤ maxLen) :
    Calls Try.prog 6 #[.slice a n c, .slice a' n' c', .string x, .string y] w fun e w' => e = .returned (.bool true) ∧ Below w.heap.size w w' := by
  have HS := hid hS
  have HBd := hid hB
  have HX := hid hx
  have HY := hid hy
  clear hS hB hx hy
  go_enter Try.func6, Try.ntmps6
  go_wp2_with fail
  refine (bytesOutside_any a n c S a' n' c' R A x y w HS.out HBd.out).mono ?_
  rintro e w' ⟨r, rfl, rfl⟩
  cases r
  · go_wp2_with fail
    go_ret
    exact ⟨rfl, Below.refl _ _⟩
  by_cases h1 : (4096 : Int) < (n : Int)
  · go_wp2_with fail
    go_ret
    exact ⟨rfl, Below.refl _ _⟩
  by_cases h2 : (4096 : Int) < (n' : Int)
  · go_wp2_with fail
    go_ret
    exact ⟨rfl, Below.refl _ _⟩
  by_cases h3 : (1048576 : Int) < (x.size : Int)
  · go_wp2_with fail
    go_ret
    exact ⟨rfl, Below.refl _ _⟩
  by_cases h4 : (1048576 : Int) < (y.size : Int)
  · go_wp2_with fail
    go_ret
    exact ⟨rfl, Below.refl _ _⟩
  go_wp2_with fail
  refine (dtOver_any a n c S a' n' c' R A x y w HS.out HBd.out).mono ?_
  rintro e w' ⟨r, rfl, rfl⟩
  cases r
  rotate_left
  · go_wp2_with fail
    go_ret
    exact ⟨rfl, Below.refl _ _⟩
  go_wp2_with fail
  go_loop [9] (fun i => ∃ k : Nat, k ≤ n ∧ i = .int .i64 k ∧ ∀ j, j < k → S j ≠ y) (fun i => n - (intOf i).toNat)
  case atStart => exact ⟨0, Nat.zero_le _, rfl, fun j hj => absurd hj (Nat.not_lt_zero _)⟩
  case round =>
    obtain ⟨k, hk, rfl, hno⟩ := hrel
    have HNO := hid hno
    clear hno
    by_cases hlt : k < n
    · obtain ⟨b, off, rfl, hb, hcell, hsl⟩ := HS.out.2 k hlt
      clear hsl
      by_cases hy : S k = y
      · have hq := str_eq_true hy
        clear hy
        go_wp2_with fail
        go_ret
        exact ⟨rfl, Below.refl _ _⟩
      · have hq := str_eq_false hy
        have HQ := hid hy
        clear hy
        go_wp2_with fail
        go_round
        case rel =>
          refine ⟨k + 1, by omega, by go_num, fun j hj => ?_⟩
          by_cases e : j = k
          · rw [e]; exact HQ.out
          · exact HNO.out j (by omega)
        case measure => simp [intOf]; omega
    · obtain rfl : k = n := by omega
      go_wp2_with fail
      refine (cloneStrs_any a k c S w HS.out (by omega)).mono ?_
      rintro e w1 ⟨a1, c1, rfl, hcap, hs1, hb1⟩
      have HCAP := hid hcap
      have HS1 := hid hs1
      have HB1 := hid hb1
      clear hs1 hb1 hcap
      go_wp2_with fail
      refine (cloneBinds_any a' n' c' R A w1 (HBd.out.below HB1.out) (by omega)).mono ?_
      rintro e w2 ⟨a2, c2, rfl, hs2, hb2⟩
      have HS2 := hid hs2
      have HS1' := hid (HS1.out.below hb2)
      have HB2 := hid (HB1.out.trans (hb2.mono HB1.out.size))
      clear hs2 hb2 HS1 HB1 HS HBd
      go_upto_if 69 with (fail)
      go_cut [10] from 23 (fun s10 wx => ∃ (wi : Int) (m : Nat), s10 = .int .i64 wi ∧ wx = w2.drewN m ∧ ((x.toList.isEmpty = true ∧ wi = -1) ∨ (x.toList.isEmpty = false ∧ Found R A S n' x k wi)))
      case first =>
        cases hxe : x.toList.isEmpty
        rotate_left
        · go_wp2_with fail
          go_meet
          case rel => exact ⟨-1, 0, rfl, rfl, Or.inl ⟨hxe, rfl⟩⟩
        · go_wp2_with fail
          go_loopg [10, 11] k (fun g s10 i wr => ∃ (t m : Nat) (wi : Int), g = k - t ∧ t ≤ k ∧ i = .int .i64 t ∧ s10 = .int .i64 wi ∧ wr = w2.drewN m ∧ Found R A S n' x t wi)
          case atStart => exact ⟨0, 0, -1, rfl, Nat.zero_le _, rfl, rfl, rfl, Or.inl ⟨rfl, fun i hi => absurd hi (Nat.not_lt_zero _)⟩⟩
          case round =>
            obtain ⟨t, m, wi, hg, ht, rfl, rfl, rfl, hf⟩ := hrel
            have HG := hid hg
            have HF := hid hf
            clear hg hf
            by_cases hlt : t < k
            rotate_left
            · obtain rfl : t = k := by omega
              go_wp2_with fail
              go_meet
              case rel => exact ⟨wi, m, rfl, rfl, Or.inr ⟨hxe, HF.out⟩⟩
            by_cases hw : wi < 0
            rotate_left
            · go_wp2_with fail
              go_meet
              case rel =>
                refine ⟨wi, m, rfl, rfl, Or.inr ⟨hxe, ?_⟩⟩
                rcases HF.out with ⟨h, _⟩ | ⟨i, j, h1, h2⟩
                · omega
                · exact Or.inr ⟨i, j, by omega, h2⟩
            have HF' : Hid (wi = -1 ∧ ∀ i, i < t → ∀ j, j < n' → ¬ (S i = R j ∧ x = A j)) := by
              rcases HF.out with h | ⟨i, j, _, _, h, _⟩
              · exact h
              · omega
            go_wp2_with fail
            go_loopg [10, 12] n' (fun g s10 j wr => ∃ m : Nat, g ≤ n' ∧ j = .int .i64 ((g : Int) - 1) ∧ s10 = .int .i64 wi ∧ wr = w2.drewN m ∧ ∀ j', g ≤ j' → j' < n' → ¬ (S t = R j' ∧ x = A j'))
            case atStart => exact ⟨m, Nat.le_refl _, rfl, rfl, rfl, fun j' h1 h2 => by omega⟩
            case round =>
              obtain ⟨m1, hg1, rfl, rfl, rfl, hno⟩ := hrel
              have HNJ := hid hno
              clear hno
              rcases Nat.eq_zero_or_pos gk with h0 | h0
              · subst h0
                go_wp2_with fail
                go_roundg (k - (t + 1))
                case measure => have := HG.out; omega
                case rel =>
                  refine ⟨t + 1, m1, wi, rfl, by omega, by go_num, rfl, rfl, Or.inl ⟨HF'.out.1, fun i hi j hj => ?_⟩⟩
                  by_cases e : i = t
                  · rw [e]; exact HNJ.out j (Nat.zero_le _) hj
                  · exact HF'.out.2 i (by omega) j hj
              · obtain ⟨jj, rfl⟩ : ∃ j, gk = j + 1 := ⟨gk - 1, by omega⟩
                obtain ⟨b, off, rfl, hb, hc1, hc2, _⟩ := HS2.out.2 jj (by omega)
                obtain ⟨b', off', rfl, hb', hc3, _⟩ := HS1'.out.2 t hlt
                rw [show (((jj + 1 : Nat) : Int) - 1) = (jj : Int) by omega]
                have hjl : (jj : Int) < (n' : Int) := by omega
                have htl : (t : Int) < (k : Int) := by omega
                by_cases hR : R jj = S t
                · have hq := str_eq_true hR
                  by_cases hA : A jj = x
                  · have hq2 := str_eq_true hA
                    have HR := hid hR
                    have HA := hid hA
                    clear hR hA
                    go_wp2_with fail
                    go_quiet (fail)
                    go_wp2_with fail
                    go_roundg (k - (t + 1))
                    case measure => have := HG.out; omega
                    case rel =>
                      refine ⟨t + 1, _, (jj : Int), rfl, by omega, by go_num, rfl, rfl, Or.inr ⟨t, jj, by omega, by omega, rfl, ⟨HR.out.symm, HA.out.symm⟩, fun j' h1 h2 => HNJ.out j' (by omega) h2, HF'.out.2⟩⟩
                  · have hq2 := str_eq_false hA
                    have HA := hid hA
                    clear hR hA
                    go_wp2_with fail
                    go_quiet (fail)
                    go_wp2_with fail
                    go_roundg jj
                    case measure => omega
                    case rel =>
                      refine ⟨_, by omega, rfl, rfl, rfl, fun j' h1 h2 => ?_⟩
                      by_cases e : j' = jj
                      · rw [e]; exact fun h => HA.out h.2.symm
                      · exact HNJ.out j' (by omega) h2
                · have hq := str_eq_false hR
                  have HR := hid hR
                  clear hR
                  go_wp2_with fail
                  go_quiet (fail)
                  go_wp2_with fail
                  go_roundg jj
                  case measure => omega
                  case rel =>
                    refine ⟨_, by omega, rfl, rfl, rfl, fun j' h1 h2 => ?_⟩
                    by_cases e : j' = jj
                    · rw [e]; exact fun h => HR.out h.1.symm
                    · exact HNJ.out j' (by omega) h2
      case rest =>
        obtain ⟨wi, m, rfl, rfl, hwant⟩ := hcut
        have HW := hid hwant
        obtain ⟨W, hW⟩ : ∃ W, W = w2.drewN m := ⟨_, rfl⟩
        have HSW : Hid (IsStrs W a1 k S) := by rw [hW]; exact HS1'.out
        have HBW : Hid (IsBinds W a2 n' R A) := by rw [hW]; exact HS2.out
        have HBELW : Hid (Below w.heap.size w W) := by rw [hW]; exact below_drewN HB2.out m
        rw [← hW]
        clear hW hwant HS2 HS1' HB2
        go_wp2_with fail
        refine (newSchema_any W).mono ?_
        rintro e w3 ⟨rfl, rfl⟩
        have HD0 := hid (Dyn.start W)
        have HST0 := hid ((Step.alloc (Nat.le_refl W.heap.size) (.map #[] 0)).trans (Step.alloc (B := W.heap.size) (w := W.alloc (.map #[] 0)) (by simp) (.cells #[.pointer none, .map (some W.heap.size), .bool false] 53)))
        go_wp2_with fail
        refine (newNode_any _ _).mono ?_
        rintro e wx ⟨rfl, C, rfl⟩
        have HD1 := hid (HD0.out.alloc (by simp; omega) (.cells C 66))
        have HST1 := hid (HST0.out.trans (Step.alloc (B := W.heap.size) (w := (W.alloc (.map #[] 0)).alloc (.cells #[.pointer none, .map (some W.heap.size), .bool false] 53)) (by simp; omega) (.cells C 66)))
        have HN1 := hid (IsNode.made ((W.alloc (.map #[] 0)).alloc (.cells #[.pointer none, .map (some W.heap.size), .bool false] 53)) C)
        clear HD0 HST0
        go_wp2_with fail
        go_loopg [15, 16] n' (fun g s15 i wr => ∃ k, g = n' - k ∧ BoundX W R A n' (W.heap.size + 1) W.heap.size (W.heap.size + 1 + 1) wi k s15 i wr)
        case atStart => exact ⟨0, rfl, Nat.zero_le _, rfl, HST1.out, by simpa using HN1.out, _, _, (fun _ => 0), HD1.out, fun r a => rfl, by unfold wantB; rw [if_neg (by omega)]⟩
        case round =>
          obtain ⟨q, hg, hq, rfl, hst, hnd, I, G, nb, hd, hG, rfl⟩ := hrel
          have HG := hid hg
          have HST := hid hst
          have HD := hid hd
          have HND := hid hnd
          have HGG := hid hG
          clear hg hst hd hnd hG
          by_cases hlt : q < n'
          · obtain ⟨b, off, rfl, hb, hc1, hc2, hr, ha⟩ := HBW.out.2 q hlt
            have hr1 := HST.out.cell hc1
            have hr2 := HST.out.cell hc2
            have HR := hid hr
            have HA := hid ha
            clear hc1 hc2 hr ha
            go_wp2_with fail
            refine (newNode_any _ wr).mono ?_
            rintro e wx ⟨rfl, C', rfl⟩
            have hB : W.heap.size ≤ wr.heap.size := HST.out.below.size
            have st1 := Step.alloc (B := W.heap.size) hB (.cells C' 66)
            have hq1 := st1.cell hr1
            have hq2 := st1.cell hr2
            have HST1' := hid st1
            clear st1
            go_wp2_with fail
            refine (ensure_any (HD.out.alloc hB (.cells C' 66)) (by simp; omega) (R q) HR.out (by unfold maxLen; omega)).mono ?_
            rintro e wy ⟨rfl, st2, I', hd2, hI'⟩
            have hp1 := st2.cell hq1
            have hp2 := st2.cell hq2
            have HST2 := hid ((HST.out.trans HST1'.out).trans st2)
            have HN := hid ((IsNode.made wr C').step st2)
            have HND2 := hid (HND.out.step (HST1'.out.trans st2))
            have HD2 := hid hd2
            have HI2 := hid hI'
            clear st2 hd2 hI' hr1 hr2 hq1 hq2
            by_cases hw : (q : Int) = wi
            · have hwt : ((q : Int) == wi) = true := by simp [hw]
              have HWI := hid hw
              clear hw
              go_wp2_with fail
              go_region_with (go_at_call 20; refine (set_any (w := wy.drew) HD2.out.drew _ _ _ HR.out HA.out (by unfold maxLen; omega) HI2.out HN.out).mono ?_; rintro e wz ⟨rfl, st3, hd3⟩; have HST3 := hid st3; have HD3 := hid hd3; clear st3 hd3)
              all_goals
                go_wp2_with fail
                go_roundg (n' - (q + 1))
                case measure => rw [HG.out]; omega
                case rel => exact ⟨q + 1, rfl, by omega, by go_num, (HST2.out.trans (Step.drew wy)).trans HST3.out, HND2.out.step ((Step.drew wy).trans HST3.out), _, _, _, HD3.out, last_step R A q _ nb G HGG.out, by rw [wantB_hit HWI.out]⟩
            · have hwt : ((q : Int) == wi) = false := by simp [hw]
              have HWI := hid hw
              clear hw
              go_wp2_with fail
              go_region_with (go_at_call 20; refine (set_any (w := wy.drew) HD2.out.drew _ _ _ HR.out HA.out (by unfold maxLen; omega) HI2.out HN.out).mono ?_; rintro e wz ⟨rfl, st3, hd3⟩; have HST3 := hid st3; have HD3 := hid hd3; clear st3 hd3)
              all_goals
                go_wp2_with fail
                go_roundg (n' - (q + 1))
                case measure => rw [HG.out]; omega
                case rel => exact ⟨q + 1, rfl, by omega, by go_num, (HST2.out.trans (Step.drew wy)).trans HST3.out, HND2.out.step ((Step.drew wy).trans HST3.out), _, _, _, HD3.out, last_step R A q _ nb G HGG.out, by rw [wantB_miss HWI.out]⟩
          · obtain rfl : q = n' := by omega
            have hB : W.heap.size ≤ wr.heap.size := HST.out.below.size
            go_wp2_with fail
            refine (newState_dyn HD.out hB _ k c1).mono ?_
            rintro e v1 ⟨rfl, st5, hd5, hc0, hc4⟩
            have HV1 := hid (HST.out.trans st5)
            have HD5 := hid hd5
            have HC0 := hid hc0
            have HC4 := hid hc4
            have hv1s : W.heap.size ≤ v1.heap.size := HV1.out.below.size
            clear st5 hd5 hc0 hc4
            go_wp2_with fail
            refine (newRef_any _ _ _).mono ?_
            rintro e wx ⟨rfl, rfl⟩
            have st6 := Step.alloc (B := W.heap.size) hv1s (.cells #[.pointer (some ⟨W.heap.size + 1 + 1, 0, none⟩), .string x] 69)
            have HD6 := hid (HD5.out.alloc hv1s (.cells #[.pointer (some ⟨W.heap.size + 1 + 1, 0, none⟩), .string x] 69))
            have HV2 := hid (HV1.out.trans st6)
            have HC0' := hid (st6.cell HC0.out)
            have HC4' := hid (st6.cell HC4.out)
            have HR0 : Hid ((v1.alloc (.cells #[.pointer (some ⟨W.heap.size + 1 + 1, 0, none⟩), .string x] 69)).cell? ⟨v1.heap.size, 0, none⟩ = some (.pointer (some ⟨W.heap.size + 1 + 1, 0, none⟩))) := by unfold Hid; rw [World.cell?_alloc_at _ _ _ _ rfl]; rfl
            have HR1 : Hid ((v1.alloc (.cells #[.pointer (some ⟨W.heap.size + 1 + 1, 0, none⟩), .string x] 69)).cell? ⟨v1.heap.size, 1, none⟩ = some (.string x)) := by unfold Hid; rw [World.cell?_alloc_at _ _ _ _ rfl]; rfl
            obtain ⟨v2, hv2⟩ : ∃ v2, v2 = v1.alloc (.cells #[.pointer (some ⟨W.heap.size + 1 + 1, 0, none⟩), .string x] 69) := ⟨_, rfl⟩
            rw [← hv2] at HD6 HV2 HC0' HC4' HR0 HR1 ⊢
            clear st6 hv2
            go_wp2_with fail
            refine (zzTarget_both _ _ _ k c1 S x (W.heap.size + 1 + 1) v2 HX.out HD6.out (HV2.out.strs HSW.out) HC0'.out HC4'.out HR0.out HR1.out).mono ?_
            rintro e v3 ⟨t1, rfl, ht1, m1, rfl⟩
            have HT1 : Hid (t1 = wantB wi q nb (W.heap.size + 1 + 1)) := by
              rcases HW.out with ⟨e1, rfl⟩ | ⟨e1, hf⟩
              · rcases ht1 with ⟨_, rfl⟩ | ⟨e2, _⟩
                · unfold Hid wantB; rw [if_neg (by omega)]
                · rw [e1] at e2; cases e2
              · rcases ht1 with ⟨e2, _⟩ | ⟨_, ht⟩
                · rw [e1] at e2; cases e2
                · exact tgt_want HGG.out hf ht
            clear ht1
            go_wp2_with fail
            refine (newNode_any _ _).mono ?_
            rintro e wx ⟨rfl, C2, rfl⟩
            have hv2s : W.heap.size ≤ (v2.drewN m1).heap.size := HV2.out.below.size
            have HD7 := hid ((HD6.out.drewN m1).alloc hv2s (.cells C2 66))
            have HN7 := hid (IsNode.made (v2.drewN m1) C2)
            have HV3 := hid ((HV2.out.trans (Step.drewN v2 m1)).trans (Step.alloc hv2s (.cells C2 66)))
            have HST7 := hid ((Step.drewN (B := W.heap.size) v2 m1).trans (Step.alloc hv2s (.cells C2 66)))
            go_wp2_with fail
            refine (ensure_any HD7.out (by simp; exact Nat.le_succ_of_le hv2s) y HY.out (by unfold maxLen; omega)).mono ?_
            rintro e wy ⟨rfl, st8, I', hd8, hI'⟩
            have HD8 := hid hd8
            have HI8 := hid hI'
            have HN8 := hid (HN7.out.step st8)
            have HST8 := hid (HST7.out.trans st8)
            clear st8 hd8 hI'
            go_wp2_with fail
            refine (set_any HD8.out y x _ HY.out HX.out (by unfold maxLen; omega) HI8.out HN8.out).mono ?_
            rintro e wz ⟨rfl, st9, hd9⟩
            have HD9 := hid hd9
            have HST9 := hid (HST8.out.trans st9)
            clear st9 hd9
            go_wp2_with fail
            refine (zzTarget_both _ _ _ k c1 S x (W.heap.size + 1 + 1) wz HX.out HD9.out (HST9.out.strs (HV2.out.strs HSW.out)) (HST9.out.cell HC0'.out) (HST9.out.cell HC4'.out) (HST9.out.cell HR0.out) (HST9.out.cell HR1.out)).mono ?_
            rintro e v4 ⟨t2, rfl, ht2, m2, rfl⟩
            have HT2 : Hid (t2 = wantB wi q nb (W.heap.size + 1 + 1)) := by
              rcases HW.out with ⟨e1, rfl⟩ | ⟨e1, hf⟩
              · rcases ht2 with ⟨_, rfl⟩ | ⟨e2, _⟩
                · unfold Hid wantB; rw [if_neg (by omega)]
                · rw [e1] at e2; cases e2
              · rcases ht2 with ⟨e2, _⟩ | ⟨_, ht⟩
                · rw [e1] at e2; cases e2
                · refine tgt_want HGG.out hf (ht.congr (fun i hi => ?_))
                  unfold updG
                  rw [if_neg (fun h => HNO.out i hi h.1)]
            clear ht2
            have e1 := HT1.out
            have e2 := HT2.out
            subst e1 e2
            have ep := ptr37_same (wantB wi q nb (W.heap.size + 1 + 1))
            have HFIN := hid (HBELW.out.trans ((HV2.out.trans HST9.out).below.mono HBELW.out.size))
            go_wp2_with fail
            go_ret
            exact ⟨rfl, below_drewN HFIN.out _⟩

end Go.Proofs.Qxb6616843a
