/-
  FnCeilingsWhole: the walk.
-/
import Derived.Test.Qxb6617267aDcl
import Derived.Deep.RegionHeld3
namespace Go.Proofs.Qxb6617267a
open Go.ChangeShapes Go.WideShapes Go.ChangeAt Go.RowKit
set_option linter.unusedVariables false
set_option linter.unusedSimpArgs false

def vals (a1 : Option Addr) (n1 c1 : Nat) (a2 : Option Addr) (n2 c2 : Nat) (f : Bool) : Value := if f then .slice a2 n2 c2 else .slice a1 n1 c1

/-- The second loop's head. -/
structure LastCR (w3 : World) (n : Nat) (O : Nat → DcR) (k : Nat) (i : Value) (wr : World) : Prop where
  le : k ≤ n
  i : i = .int .i64 k
  below : Below w3.heap.size w3 wr
  last : ∃ F, VMap Try.prog 32 wr w3.heap.size (cntC O k) F ∧ ∀ t, F (uk t) = (lastC O k t).map (fun b => .int .i64 (b : Int))

theorem LastCR.start (w3 : World) (n : Nat) (O : Nat → DcR) : LastCR w3 n O 0 (.int .i64 0) (w3.alloc (.map #[] 0)) :=
  ⟨Nat.zero_le _, rfl, (Below.refl _ _).alloc (Nat.le_refl _) _, fun _ => none, VMap.made Try.prog 32 w3, fun t => rfl⟩

theorem LastCR.next {w3 : World} {n : Nat} {O : Nat → DcR} {k : Nat} {wr w' : World} {F : Lit → Option Value} (hlt : k < n) (hb : Below w3.heap.size w3 wr) (hF : ∀ t, F (uk t) = (lastC O k t).map (fun b => .int .i64 (b : Int)))
    (hv : VMap Try.prog 32 w' w3.heap.size (grow (F (uk (O k).txn)) (cntC O k)) (upd F (uk (O k).txn) (.int .i64 (k : Int)))) (ht : wr.mapTurned w' w3.heap.size) : LastCR w3 n O (k + 1) (.int .i64 ((k : Int) + 1)) w' := by
  refine ⟨by omega, by go_num, below_turned hb ht (Nat.le_refl _), upd F (uk (O k).txn) (.int .i64 (k : Int)), ?_, fun t => ?_⟩
  · have e : cntC O (k + 1) = grow (F (uk (O k).txn)) (cntC O k) := by
      rw [cntC, hF]
      unfold grow
      cases lastC O k (O k).txn <;> rfl
    rw [e]; exact hv
  · rw [upd_uk, lastC]
    by_cases e : t = (O k).txn
    · rw [if_pos e, if_pos e.symm]; rfl
    · rw [if_neg e, if_neg (fun h => e h.symm)]; exact hF t

/-- The third loop's world. -/
structure CwR (w4 : World) (X : ByteArray → Int → Bool → Prop) (bd : Nat) (wr : World) : Prop where
  below : Below w4.heap.size w4 wr
  model : ∃ A R, Model wr w4.heap.size bd A R ∧ Cei X A R

theorem Model.heap' {w w' : World} {B n : Nat} {A R : ByteArray → Option Int} (h : Model w B n A R) (hw : w'.heap = w.heap) : Model w' B n A R := by
  obtain ⟨v, l, hM, h2⟩ := h
  exact ⟨v, l, hM.old (fun i hi => by rw [hw]), h2⟩
theorem CwR.ext {w4 : World} {X Y : ByteArray → Int → Bool → Prop} {bd bd' : Nat} {wr : World} (h : CwR w4 X bd wr) (hb : bd ≤ bd') (e : ∀ i p f, X i p f ↔ Y i p f) : CwR w4 Y bd' wr := by
  obtain ⟨A, R, hM, hC⟩ := h.model
  obtain ⟨v, l, hM, h2⟩ := hM
  exact ⟨h.below, A, R, ⟨v, l, hM.ext hb (fun i hi x => rfl), h2⟩, hC.iff e⟩
theorem CwR.noted {w4 : World} {X : ByteArray → Int → Bool → Prop} {bd : Nat} {wr w' : World} (h : CwR w4 X bd wr) {A R : ByteArray → Option Int} {s : ByteArray} {q : Int} {g : Bool} (hC : Cei X A R)
    (hb : Below w4.heap.size wr w') (hM : Model w' w4.heap.size (bd + 8) (setA A s q) (setR R s q g)) : CwR w4 (fun i p f => X i p f ∨ (i = s ∧ p = q ∧ f = g)) (bd + 8) w' :=
  ⟨h.below.trans hb, _, _, hM, hC.add s q g⟩

/-- A bound of the model's size. -/
def bdC (k : Nat) : Nat := k * 1048576
theorem bdC_step (k : Nat) : bdC k + 8 * 65536 + 8 * 65536 ≤ bdC (k + 1) := by unfold bdC; omega
theorem bdC_le {k : Nat} (h : k ≤ 16384) : bdC k ≤ 17179869184 := by unfold bdC; omega

set_option maxRecDepth 100000 in
set_option maxHeartbeats 8000000 in
theorem cw_walk (a : Option Addr) (n c : Nat) (O : Nat → DcR) (w : World) (hS : IsDcs w a n O) :
    Calls Try.prog 5 #[.slice a n c] w fun e w' => e = .returned (.bool true) ∧ Below w.heap.size w w' := by
  have HS := hid hS
  clear hS
  have hmm := @run_makeMap Try.prog
  go_enter Try.func5, Try.ntmps5
  go_wp2_with fail
  refine (bytesDcs_any a n c O w HS.out).mono ?_
  rintro e w' ⟨r, rfl, rfl⟩
  cases r
  · go_wp2_with fail
    go_ret
    exact ⟨rfl, Below.refl _ _⟩
  go_wp2_with fail
  refine (dcsTooBig_any a n c O w HS.out).mono ?_
  rintro e w' ⟨r, rfl, rfl, hshort⟩
  cases r
  rotate_left
  · clear hshort
    go_wp2_with fail
    go_ret
    exact ⟨rfl, Below.refl _ _⟩
  obtain ⟨hn, hfew⟩ := hshort rfl
  have HFEW := hid hfew
  clear hshort hfew
  go_wp2_with fail
  go_loopg [4] n (fun g i wr => ∃ k, g = n - k ∧ DclR w n O k i wr)
  case atStart => exact ⟨0, rfl, DclR.start w n O⟩
  case round =>
    obtain ⟨k, hg, hrel⟩ := hrel
    have HREL := hid hrel
    obtain ⟨hk, rfl, hbel, blk, V, hD, hI⟩ := hrel
    have HG := hid hg
    have HD := hid hD
    have HI := hid hI
    clear hg hD hI
    by_cases hlt : k < n
    · obtain ⟨b, off, rfl, hb, hat, hwf, hsr, hsw⟩ := HS.out.2 k hlt
      obtain ⟨q0, q1, q2, q3⟩ := hat.below hbel hb
      have HAT : Hid (∀ W : World, Below w.heap.size w W → W.cell? ⟨b, off + k * 4, none⟩ = some (.int .u64 (O k).txn) ∧ W.cell? ⟨b, off + k * 4 + 1, none⟩ = some (.int .i64 (O k).prio) ∧ W.cell? ⟨b, off + k * 4 + 2, none⟩ = some (.slice (O k).ra (O k).rd.length (O k).rc) ∧ W.cell? ⟨b, off + k * 4 + 3, none⟩ = some (.slice (O k).wa (O k).wd.length (O k).wc)) := fun W hW => hat.below hW hb
      have HSR : Hid (∀ W : World, Below w.heap.size w W → StrsIn W (O k).ra (O k).rd) := fun W hW => hsr.below hW (Nat.le_refl _)
      have HSW : Hid (∀ W : World, Below w.heap.size w W → StrsIn W (O k).wa (O k).wd) := fun W hW => hsw.below hW (Nat.le_refl _)
      obtain ⟨hl1, hl2⟩ := HFEW.out k hlt
      obtain ⟨F, hv, hF⟩ := HD.out.map
      have HV := hid hv
      have HF := hid hF
      have HWF := hid hwf
      have hMl := hv.lt
      have HBEL := hid hbel
      have HSTO : Hid (∀ (W : World) (p : Int) (v1 v2 : Value), Below wr.heap.size wr W → ∃ w2, (Instr.mapUpdate 25 (.map (some w.heap.size)) (.int .u64 (O k).txn) (.pointer (some ⟨W.heap.size, 0, none⟩))).run Try.prog (W.alloc (.cells #[.int .i64 p, v1, v2] 62)) = .ok () w2 ∧
          VMap Try.prog 38 w2 w.heap.size (grow (F (uk (O k).txn)) (cntC O k)) (upd F (uk (O k).txn) (.pointer (some ⟨W.heap.size, 0, none⟩))) ∧ (W.alloc (.cells #[.int .i64 p, v1, v2] 62)).mapTurned w2 w.heap.size) := fun W p v1 v2 hW =>
        VMap.store ((hv.below hW hMl).alloc _) law38 Try.underlying25 (by have := cntC_le O k; unfold maxLen; omega) (key38 hwf)
      have hbw0 : Below w.heap.size w wr.drew := hbel.drew
      have HBS := hid hbel.size
      clear hat hsr hsw hv hF hwf hmm
      clear hbel
      go_wp2_with fail
      go_region_held3 (fun w' => w'.cell? ⟨b, off + k * 4, none⟩ = some (.int .u64 (O k).txn) ∧ w'.cell? ⟨b, off + k * 4 + 1, none⟩ = some (.int .i64 (O k).prio) ∧ w'.cell? ⟨b, off + k * 4 + 2, none⟩ = some (.slice (O k).ra (O k).rd.length (O k).rc) ∧ w'.cell? ⟨b, off + k * 4 + 3, none⟩ = some (.slice (O k).wa (O k).wd.length (O k).wc))
        (exact HAT.out _ (by assumption))
        (first
          | (go_at_call 22; refine (clone_any (O k).wa (O k).wc (O k).wd wA (HSW.out _ hbwA) hl2).mono ?_; rintro e wB ⟨a2, c2, rfl, hrow2, hb2⟩; have HTWO : Hid (Two wr wB (vals a1 (O k).rd.length c1 a2 (O k).wd.length c2) (lst (O k))) := Two.mk1 false HBA.out HROWA.out hb2 hrow2; have hbwB : Below w.heap.size w wB := HBEL.out.trans (HTWO.out.below.mono HBS.out); clear hrow2 hb2)
          | (go_at_call 22; refine (clone_any (O k).ra (O k).rc (O k).rd wC (HSR.out _ hbwC) hl1).mono ?_; rintro e wB ⟨a1, c1, rfl, hrow2, hb2⟩; have HTWO : Hid (Two wr wB (vals a1 (O k).rd.length c1 a2 (O k).wd.length c2) (lst (O k))) := Two.mk1 true HBC.out HROWC.out hb2 hrow2; have hbwB : Below w.heap.size w wB := HBEL.out.trans (HTWO.out.below.mono HBS.out); clear hrow2 hb2)
          | (go_at_call 22; refine (clone_any (O k).ra (O k).rc (O k).rd wr.drew (HSR.out _ hbw0) hl1).mono ?_; rintro e wA ⟨a1, c1, rfl, hrow, hb1⟩; have HBA : Hid (Below wr.heap.size wr wA) := (Below.refl _ _).drew.trans hb1; have HROWA : Hid (RowS wA wr.heap.size (.slice a1 (O k).rd.length c1) (O k).rd) := hrow; have hbwA : Below w.heap.size w wA := HBEL.out.trans (HBA.out.mono HBS.out); clear hrow hb1)
          | (go_at_call 22; refine (clone_any (O k).wa (O k).wc (O k).wd wr.drew (HSW.out _ hbw0) hl2).mono ?_; rintro e wC ⟨a2, c2, rfl, hrow, hb1⟩; have HBC : Hid (Below wr.heap.size wr wC) := (Below.refl _ _).drew.trans hb1; have HROWC : Hid (RowS wC wr.heap.size (.slice a2 (O k).wd.length c2) (O k).wd) := hrow; have hbwC : Below w.heap.size w wC := HBEL.out.trans (HBC.out.mono HBS.out); clear hrow hb1)
          | (go_at_call 21; refine (newDecl_any _ _ _ _ _ _ _ wB).mono ?_; rintro e w' ⟨rfl, rfl⟩; obtain ⟨w2, hrun, hv2, ht2⟩ := HSTO.out wB (O k).prio (.slice a1 (O k).rd.length c1) (.slice a2 (O k).wd.length c2) HTWO.out.below; have hbwD : Below w.heap.size w (wB.alloc (.cells #[.int .i64 (O k).prio, .slice a1 (O k).rd.length c1, .slice a2 (O k).wd.length c2] 62)) := hbwB.alloc hbwB.size _; have hbw2 : Below w.heap.size w w2 := below_turned hbwD ht2 (Nat.le_refl _); have HV2 := hid hv2; have HT2 := hid ht2; clear hv2 ht2))
      all_goals
        go_wp2_with fail
        go_roundg (n - (k + 1))
        case measure => rw [HG.out]; omega
        case rel => exact ⟨k + 1, rfl, DclR.laid (wr := wr) hlt HI.out HF.out hbw2 (Decls.laid HD.out HBS.out HF.out HV.out (O k).txn (O k).prio HTWO.out HV2.out HT2.out)⟩
    · obtain rfl : k = n := by omega
      have HB1 := hid hbel
      have HSZR : Hid (∀ i, i < k → ∀ f it, it ∈ lst (O i) f → it.size ≤ maxLen) := fun i hi f it hit => by
        obtain ⟨_, _, _, _, _, _, hr, hw⟩ := HS.out.2 i hi
        have key : ∀ (l : List ByteArray) (ad : Option Addr), StrsIn w ad l → it ∈ l → it.size ≤ maxLen := fun l ad hl hm => by
          obtain ⟨j, hj, rfl⟩ := List.mem_iff_getElem.1 hm
          obtain ⟨_, _, _, _, _, h⟩ := hl.2 j hj
          simpa [List.getD_eq_getElem?_getD, hj] using h
        cases f
        · exact key _ _ hr hit
        · exact key _ _ hw hit
      have CC := hid (zzCeilings_any wr _ _ _ blk _ V _ HD.out (Nat.le_trans (cntC_le O k) hn) (fun x => by
          unfold LC
          split
          · rename_i bb hbb
            have hlt := (lastC_spec O x.1 bb k hbb).1
            have := HFEW.out bb hlt
            unfold lst
            split
            · exact this.2
            · exact this.1
          · exact Nat.zero_le _) (fun x it hit => by
          unfold LC at hit
          split at hit
          · rename_i bb hbb
            exact HSZR.out bb (lastC_spec O x.1 bb k hbb).1 x.2 it hit
          · cases hit))
      clear hbel HREL HG HD
      go_wp2_with fail
      refine CC.out.mono ?_
      rintro e w3 ⟨rfl, hb3, cc, A0, R0, hcm, hcei⟩
      obtain ⟨Mc, hMc⟩ : ∃ Mc, Mc = wr.heap.size := ⟨_, rfl⟩
      have HB3 := hid (HB1.out.trans (hb3.mono HB1.out.size))
      rw [← hMc] at hcm
      have HCM := hid hcm
      have HCE : Hid (Cei (dcX O k k) A0 R0) := hcei.iff (dcX_decl HI.out)
      clear hb3 hcm hcei CC HB1 HI
      rw [← hMc]
      clear hMc
      go_wp2_with fail
      clear hmm
      obtain ⟨n, hnk⟩ : ∃ n, n = k := ⟨_, rfl⟩
      subst hnk
      go_loopg [7] n (fun g i wr => ∃ k, g = n - k ∧ LastCR w3 n O k i wr)
      case atStart => exact ⟨0, rfl, LastCR.start w3 n O⟩
      case round =>
        obtain ⟨k, hg, hk, rfl, hbel, F, hv, hF⟩ := hrel
        have HG := hid hg
        have HB := hid hbel
        have HV := hid hv
        have HF := hid hF
        clear hg hbel hv hF
        by_cases hlt : k < n
        · obtain ⟨b, off, rfl, hb, hat, hwf, hsr, hsw⟩ := HS.out.2 k hlt
          obtain ⟨q0, q1, q2, q3⟩ := hat.below (HB3.out.trans (HB.out.mono HB3.out.size)) hb
          have HWF := hid hwf
          clear hat hsr hsw hwf
          go_wp2_with (at_mapUpdate; refine wpList_vstore (val := .int .i64 (k : Int)) _ rfl _ _ _ 29 rfl law32 Try.underlying29 rfl HV.out (by have := cntC_le O k; unfold maxLen; omega) rfl rfl (key32 HWF.out) ?_; intro w' hv' ht'; have HV' := hid hv'; have HT' := hid ht'; clear hv' ht')
          go_roundg (n - (k + 1))
          case measure => rw [HG.out]; omega
          case rel => exact ⟨k + 1, rfl, LastCR.next hlt HB.out HF.out HV'.out HT'.out⟩
        · obtain rfl : k = n := by omega
          obtain ⟨n, hnk⟩ : ∃ n, n = k := ⟨_, rfl⟩
          subst hnk
          obtain ⟨w4, hw4⟩ : ∃ w4, w4 = wr := ⟨_, rfl⟩
          subst hw4
          have HB4 := hid (HB3.out.trans (HB.out.mono HB3.out.size))
          have HCM4 := hid (HCM.out.below HB.out)
          clear HG HCM HB3 HB
          go_wp2_with fail
          refine (newModel_any w4).mono ?_
          rintro e w5 ⟨rfl, hb5, hm5⟩
          have H5 : Hid (CwR w4 (dcX O n 0) (bdC 0) w5) := ⟨hb5, _, _, by unfold bdC; exact hm5, Cei.start.iff (fun it p f => ⟨False.elim, fun ⟨j, h, _⟩ => by omega⟩)⟩
          clear hb5 hm5
          go_wp2_with fail
          go_loopg [9] n (fun g i wr => ∃ k, g = n - k ∧ k ≤ n ∧ i = .int .i64 k ∧ CwR w4 (dcX O n k) (bdC k) wr)
          case atStart => exact ⟨0, rfl, Nat.zero_le _, rfl, H5.out⟩
          case round =>
            obtain ⟨k, hg, hk, rfl, hR⟩ := hrel
            have HG := hid hg
            have HR := hid hR
            clear hg hR H5
            have HBW := hid (HB4.out.trans (HR.out.below.mono HB4.out.size))
            by_cases hlt : k < n
            · obtain ⟨b, off, rfl, hb, hat, hwf, hsr, hsw⟩ := HS.out.2 k hlt
              have HAT : Hid (∀ W : World, Below w.heap.size w W → W.cell? ⟨b, off + k * 4, none⟩ = some (.int .u64 (O k).txn) ∧ W.cell? ⟨b, off + k * 4 + 1, none⟩ = some (.int .i64 (O k).prio) ∧ W.cell? ⟨b, off + k * 4 + 2, none⟩ = some (.slice (O k).ra (O k).rd.length (O k).rc) ∧ W.cell? ⟨b, off + k * 4 + 3, none⟩ = some (.slice (O k).wa (O k).wd.length (O k).wc)) := fun W hW => hat.below hW hb
              have HSR : Hid (∀ W : World, Below w.heap.size w W → StrsIn W (O k).ra (O k).rd) := fun W hW => hsr.below hW (Nat.le_refl _)
              have HSW : Hid (∀ W : World, Below w.heap.size w W → StrsIn W (O k).wa (O k).wd) := fun W hW => hsw.below hW (Nat.le_refl _)
              obtain ⟨hl1, hl2⟩ := HFEW.out k hlt
              obtain ⟨lb, hlb⟩ := lastC_some O k n hlt
              have ll : (Instr.lookup 29 (.map (some w3.heap.size)) (.int .u64 (O k).txn) false).run Try.prog wr = .ok (.int .i64 (lb : Int)) wr := by
                have := (HV.out.below HR.out.below HV.out.lt).look law32 Try.underlying29 (zero3 wr) (key32 hwf)
                rw [HF.out, hlb] at this
                exact this
              obtain ⟨q0, q1, q2, q3⟩ := HAT.out wr HBW.out
              have hlr := hsr.1
              have hlw := hsw.1
              unfold maxLen at hlr hlw
              clear hat hwf hsr hsw
              by_cases hbk : lb = k
              · subst hbk
                have HLK := hid hlb
                clear hlb
                obtain ⟨k, hkk⟩ : ∃ k, k = lb := ⟨_, rfl⟩
                subst hkk
                obtain ⟨gk0, hgk0⟩ : ∃ gk0, gk0 = gk := ⟨_, rfl⟩
                have HGE := hid hgk0
                obtain ⟨bd, hbd⟩ : ∃ bd, bd = bdC k := ⟨_, rfl⟩
                have HSTART : Hid (CwR w4 (moreX (dcX O n k) (O k).prio false (O k).rd 0) (bd + 8 * 0) wr) := HR.out.ext (by omega) (fun i p f => ⟨Or.inl, fun h => h.resolve_right (fun hh => by simpa using hh.2.2)⟩)
                have HBD : Hid (bd ≤ 17179869184) := by unfold Hid; rw [hbd]; exact bdC_le (by omega)
                have HBD2 : Hid (bd ≤ 17179869184) := HBD
                have HBDS : Hid (bd + 8 * 65536 + 8 * 65536 ≤ bdC (k + 1)) := by unfold Hid; rw [hbd]; exact bdC_step k
                clear hbd hgk0 HR HBW
                go_wp2_with fail
                clear ll q0 q1 q2 q3
                go_loopg [10] (O k).rd.length (fun g i wr => ∃ j, g = (O k).rd.length - j ∧ j ≤ (O k).rd.length ∧ i = .int .i64 j ∧ CwR w4 (moreX (dcX O n k) (O k).prio false (O k).rd j) (bd + 8 * j) wr)
                case atStart => exact ⟨0, rfl, Nat.zero_le _, rfl, HSTART.out⟩
                case round =>
                  obtain ⟨j, hg, hj, rfl, hR⟩ := hrel
                  have HGJ := hid hg
                  have HR := hid hR
                  clear hg hR HSTART
                  have HBW := hid (HB4.out.trans (HR.out.below.mono HB4.out.size))
                  obtain ⟨q0, q1, q2, q3⟩ := HAT.out wr HBW.out
                  by_cases hjl : j < (O k).rd.length
                  · obtain ⟨b', off', hra, hb', hcell, hsz⟩ := (HSR.out wr HBW.out).2 j hjl
                    rw [hra] at q2
                    have HST : Hid (∀ i p h, (moreX (dcX O n k) (O k).prio false (O k).rd j i p h ∨ (i = (O k).rd.getD j ByteArray.empty ∧ p = (O k).prio ∧ h = false)) ↔ moreX (dcX O n k) (O k).prio false (O k).rd (j + 1) i p h) := moreX_step hjl
                    obtain ⟨s, hs⟩ : ∃ s, s = (O k).rd.getD j ByteArray.empty := ⟨_, rfl⟩
                    rw [← hs] at hcell hsz HST
                    clear hs hra
                    obtain ⟨A, R, hM, hC⟩ := HR.out.model
                    have HM := hid hM
                    have HC := hid hC
                    have HN8 : Hid (bd + 8 * j ≤ 1000000000000) := by have := HBD.out; have := HBD2.out; unfold Hid; omega
                    clear hM hC
                    go_wp2_with fail
                    go_region_with (go_at_call 25; refine (note_any wr.drew w4.heap.size (bd + 8 * j) A R s (O k).prio false (HM.out.heap' rfl) hsz HN8.out HC.out.quiet).mono ?_; rintro e wz ⟨rfl, hbz, hmz⟩; have HBZ := hid hbz; have HMZ := hid hmz; clear hbz hmz)
                    all_goals
                      go_wp2_with fail
                      go_roundg ((O k).rd.length - (j + 1))
                      case measure => rw [HGJ.out]; omega
                      case rel => exact ⟨j + 1, rfl, by omega, by go_num, (HR.out.noted HC.out ((Below.refl _ _).drew.trans HBZ.out) HMZ.out).ext (by omega) HST.out⟩
                  · obtain rfl : j = (O k).rd.length := by omega
                    obtain ⟨bd2, hbd2⟩ : ∃ bd2, bd2 = bd + 8 * 65536 := ⟨_, rfl⟩
                    have HSTART : Hid (CwR w4 (moreX (moreX (dcX O n k) (O k).prio false (O k).rd (O k).rd.length) (O k).prio true (O k).wd 0) (bd2 + 8 * 0) wr) := HR.out.ext (by omega) (fun i p f => ⟨Or.inl, fun h => h.resolve_right (fun hh => by simpa using hh.2.2)⟩)
                    have HB2 := hid hbd2
                    have HBD2 : Hid (bd2 ≤ 17190000000) := by have := HBD.out; unfold Hid; omega
                    clear hbd2 HR HGJ
                    go_wp2_with fail
                    clear q0 q1 q2 q3
                    go_loopg [11] (O k).wd.length (fun g i wr => ∃ j, g = (O k).wd.length - j ∧ j ≤ (O k).wd.length ∧ i = .int .i64 j ∧ CwR w4 (moreX (moreX (dcX O n k) (O k).prio false (O k).rd (O k).rd.length) (O k).prio true (O k).wd j) (bd2 + 8 * j) wr)
                    case atStart => exact ⟨0, rfl, Nat.zero_le _, rfl, HSTART.out⟩
                    case round =>
                      obtain ⟨j, hg, hj, rfl, hR⟩ := hrel
                      have HGJ := hid hg
                      have HR := hid hR
                      clear hg hR HSTART
                      have HBW := hid (HB4.out.trans (HR.out.below.mono HB4.out.size))
                      obtain ⟨q0, q1, q2, q3⟩ := HAT.out wr HBW.out
                      by_cases hjl : j < (O k).wd.length
                      · obtain ⟨b', off', hra, hb', hcell, hsz⟩ := (HSW.out wr HBW.out).2 j hjl
                        rw [hra] at q3
                        have HST : Hid (∀ i p h, (moreX (moreX (dcX O n k) (O k).prio false (O k).rd (O k).rd.length) (O k).prio true (O k).wd j i p h ∨ (i = (O k).wd.getD j ByteArray.empty ∧ p = (O k).prio ∧ h = true)) ↔ moreX (moreX (dcX O n k) (O k).prio false (O k).rd (O k).rd.length) (O k).prio true (O k).wd (j + 1) i p h) := moreX_step hjl
                        obtain ⟨s, hs⟩ : ∃ s, s = (O k).wd.getD j ByteArray.empty := ⟨_, rfl⟩
                        rw [← hs] at hcell hsz HST
                        clear hs hra
                        obtain ⟨A, R, hM, hC⟩ := HR.out.model
                        have HM := hid hM
                        have HC := hid hC
                        have HN8 : Hid (bd2 + 8 * j ≤ 1000000000000) := by have := HBD.out; have := HBD2.out; unfold Hid; omega
                        clear hM hC
                        go_wp2_with fail
                        go_region_with (go_at_call 25; refine (note_any wr.drew w4.heap.size (bd2 + 8 * j) A R s (O k).prio true (HM.out.heap' rfl) hsz HN8.out HC.out.quiet).mono ?_; rintro e wz ⟨rfl, hbz, hmz⟩; have HBZ := hid hbz; have HMZ := hid hmz; clear hbz hmz)
                        all_goals
                          go_wp2_with fail
                          go_roundg ((O k).wd.length - (j + 1))
                          case measure => rw [HGJ.out]; omega
                          case rel => exact ⟨j + 1, rfl, by omega, by go_num, (HR.out.noted HC.out ((Below.refl _ _).drew.trans HBZ.out) HMZ.out).ext (by omega) HST.out⟩
                      · obtain rfl : j = (O k).wd.length := by omega
                        go_wp2_with fail
                        go_roundg (n - (k + 1))
                        case measure => have := HGE.out; have := HG.out; omega
                        case rel => exact ⟨k + 1, rfl, by omega, by go_num, HR.out.ext (by have := HBDS.out; have := HB2.out; omega) (dcX_step HLK.out)⟩
              · have hne : ((lb : Int) != (k : Int)) = true := by simp; omega
                have hne2 : ((lb : Int) == (k : Int)) = false := by simp; omega
                have HNE : Hid (¬ lastC O n (O k).txn = some k) := fun e => by rw [hlb] at e; cases e; exact hbk rfl
                clear hlb
                go_wp2_with fail
                go_roundg (n - (k + 1))
                case measure => rw [HG.out]; omega
                case rel => exact ⟨k + 1, rfl, by omega, by go_num, HR.out.ext (by have := bdC_step k; omega) (dcX_idle HNE.out)⟩
            · obtain rfl : k = n := by omega
              obtain ⟨A, R, hM, hC⟩ := HR.out.model
              obtain ⟨e1, e2⟩ := hC.unique HCE.out
              subst e1; subst e2
              have C := hid (matches_any wr w4.heap.size (bdC k) Mc cc A R hM (HCM4.out.congr (HR.out.below.block _ HCM4.out.lt)) (Nat.le_trans (bdC_le (by omega)) (by omega)) (fun it hsome => by
                have h1 := hC.all it
                obtain ⟨p, hp⟩ := Option.isSome_iff_exists.1 hsome
                rw [hp] at h1
                obtain ⟨⟨f, j, hj, _, _, he⟩, _⟩ := h1
                exact HSZR.out j hj f it he))
              clear hM hC
              go_wp2_with fail
              refine C.out.mono ?_
              rintro e w6 ⟨rfl, hb6⟩
              have HB6 := hid hb6
              clear hb6
              go_wp2_with fail
              go_ret
              exact ⟨rfl, HBW.out.trans (HB6.out.mono HBW.out.size)⟩

end Go.Proofs.Qxb6617267a
