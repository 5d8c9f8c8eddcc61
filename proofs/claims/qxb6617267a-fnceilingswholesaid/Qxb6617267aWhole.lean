/-
  FnDeclarationsWhole: the walk.
-/
import Derived.Test.Qxb6617267aLen
namespace Go.Proofs.Qxb6617267a
open Go.ChangeShapes Go.WideShapes Go.ChangeAt Go.RowKit
set_option linter.unusedVariables false
set_option linter.unusedSimpArgs false

theorem zero36 (w : World) : (zeroValue 36).run Try.prog w = .ok (.slice none 0 0) w := by kernel_rfl

theorem IsLast.below {B : Nat} {w w' : World} {M : Nat} {O : Nat → OpR} {all : Bool} {k : Nat} (h : IsLast w M O all k) (hb : Below B w w') (hlt : M < B) : IsLast w' M O all k := by
  obtain ⟨F, hv, hF⟩ := h; exact ⟨F, hv.below hb hlt, hF⟩
theorem IsLast.lt {w : World} {M : Nat} {O : Nat → OpR} {all : Bool} {k : Nat} (h : IsLast w M O all k) : M < w.heap.size := by
  obtain ⟨F, hv, hF⟩ := h; exact hv.lt
theorem IsLast.look {w : World} {M : Nat} {O : Nat → OpR} {all : Bool} {k : Nat} (h : IsLast w M O all k) {t : Int} (ht : (Lit.int .u64 t).wf = true) :
    (Instr.lookup 29 (.map (some M)) (.int .u64 t) true).run Try.prog w = .ok (.tuple #[((lastD O all k t).map (fun b => Value.int .i64 (b : Int))).getD (.int .i64 0), .bool (lastD O all k t).isSome]) w := by
  obtain ⟨F, hv, hF⟩ := h
  have := hv.look_ok law32 Try.underlying29 (zero3 w) (key32 ht)
  rw [hF] at this
  rw [this]
  cases lastD O all k t <;> rfl

theorem Decls.below {w w' : World} {B M cnt : Nat} {blk : Int → Option Nat} {pr : Int → Int} {V : Int × Bool → Value} {L : Int × Bool → List ByteArray} (h : Decls w B M cnt blk pr V L) (hb : Below w.heap.size w w') : Decls w' B M cnt blk pr V L := by
  obtain ⟨F, hv, hF⟩ := h.map
  exact h.congr (hb.block M hv.lt) (fun g cur t _ hg => hb.block g (lt_of_heap hg))

/-- Loop 1's head. -/
structure WholeR (w3 : World) (n : Nat) (O : Nat → OpR) (all : Bool) (k : Nat) (i : Value) (wr : World) : Prop where
  le : k ≤ n
  i : i = .int .i64 k
  below : Below w3.heap.size w3 wr
  grp : ∃ V, Grp wr w3.heap.size w3.heap.size (w3.heap.size + 1) k V (L2 O all n k)

theorem WholeR.idle {w3 : World} {n : Nat} {O : Nat → OpR} {all : Bool} {k : Nat} {i : Value} {wr : World} (h : WholeR w3 n O all k i wr) (hlt : k < n) (hn : ∀ f, ¬ (after O all n (O k).txn k = true ∧ (O k).kind = kindOf f)) :
    WholeR w3 n O all (k + 1) (.int .i64 ((k : Int) + 1)) wr := by
  obtain ⟨hk, _, hb, V, hG⟩ := h
  refine ⟨by omega, by go_num, hb, V, hG.congr rfl (by omega) (fun x => ?_)⟩
  show items2 O all n x.2 k x.1 = items2 O all n x.2 (k + 1) x.1
  rw [items2, if_neg (fun hh => hn x.2 (by rw [hh.1]; exact hh.2))]

theorem WholeR.grown {w3 : World} {n : Nat} {O : Nat → OpR} {all : Bool} {k : Nat} {wx : World} {V : Int × Bool → Value} (f : Bool) (hlt : k < n) (hb : Below w3.heap.size w3 wx) (ha : after O all n (O k).txn k = true) (hk : (O k).kind = kindOf f)
    (hG : Grp wx w3.heap.size w3.heap.size (w3.heap.size + 1) (k + 1) V (fun y => if y = ((O k).txn, f) then L2 O all n k ((O k).txn, f) ++ [(O k).item] else L2 O all n k y)) : WholeR w3 n O all (k + 1) (.int .i64 ((k : Int) + 1)) wx := by
  refine ⟨by omega, by go_num, hb, V, hG.congr rfl (Nat.le_refl _) (fun x => ?_)⟩
  obtain ⟨t, f'⟩ := x
  show (if (t, f') = ((O k).txn, f) then items2 O all n f k (O k).txn ++ [(O k).item] else items2 O all n f' k t) = items2 O all n f' (k + 1) t
  rw [items2]
  by_cases e : (O k).txn = t
  · subst e
    by_cases ef : f' = f
    · subst ef
      rw [if_pos rfl, if_pos ⟨rfl, ha, hk⟩]
    · rw [if_neg (fun h => ef (by cases h; rfl)), if_neg (fun h => ef (kindOf_inj (h.2.2.symm.trans hk)))]
  · rw [if_neg (fun h => e (by cases h; rfl)), if_neg (fun h => e h.1)]

theorem quietS {P : Program} {f : FuncId} {args : Array Value} {W : World} {m x : Nat} {v : Value} (h : Calls P f args (W.drewN (m + x)) fun e w' => e = .returned v ∧ w' = W.drewN (m + x)) :
    Calls P f args (W.drewN (m + x)) fun e w'' => e = .returned v ∧ ∃ n, w'' = W.drewN (m + n) := h.mono fun _ _ ⟨he, hm⟩ => ⟨he, x, hm⟩
theorem quietD {P : Program} {f : FuncId} {args : Array Value} {W : World} {m x : Nat} {v : Value} (h : Calls P f args (W.drewN (m + x)) fun e w' => e = .returned v ∧ ∃ q, w' = (W.drewN (m + x)).drewN q) :
    Calls P f args (W.drewN (m + x)) fun e w'' => e = .returned v ∧ ∃ n, w'' = W.drewN (m + n) := h.mono fun _ _ ⟨he, q, hm⟩ => ⟨he, x + q, by rw [hm, World.drewN_drewN, Nat.add_assoc]⟩

theorem Grp.blkB {w : World} {B Mr Mw cnt : Nat} {V : Int × Bool → Value} {L : Int × Bool → List ByteArray} (h : Grp w B Mr Mw cnt V L) (f : Bool) : B ≤ Grp.blk Mr Mw f := by
  cases f
  · exact h.BR
  · exact h.BW

/-- All that 'm[t] = append(m[t], s)' wants. -/
theorem Grp.ready {wr : World} {B Mr Mw cnt : Nat} {V : Int × Bool → Value} {L : Int × Bool → List ByteArray} (h : Grp wr B Mr Mw cnt V L) (f : Bool) (t : Int) (ht : (Lit.int .u64 t).wf = true) (s : ByteArray) (hc : cnt ≤ 16384) :
    ∃ F n, n ≤ cnt ∧ (∀ x, (F (uk x)).getD (.slice none 0 0) = V (x, f)) ∧
      (Instr.lookup 31 (.map (some (Grp.blk Mr Mw f))) (.int .u64 t) false).run Try.prog wr.drew = .ok (V (t, f)) wr.drew ∧
      (Instr.lookup 31 (.map (some (Grp.blk Mr Mw f))) (.int .u64 t) false).run Try.prog (wr.alloc (.cells #[.string s] 9)).drew = .ok (V (t, f)) (wr.alloc (.cells #[.string s] 9)).drew ∧
      (wr.alloc (.cells #[.string s] 9)).drew.ownsRow B 9 1 (V (t, f)) (L (t, f)).length ((L (t, f)).map Value.string) ∧ (∀ j, (V (t, f)).ownBlock = some j → B ≤ j) ∧
      ∀ (w1 : World) (g cap : Nat), (wr.alloc (.cells #[.string s] 9)).drew.grownBy w1 (V (t, f)).ownBlock → ∃ w2, (Instr.mapUpdate 31 (.map (some (Grp.blk Mr Mw f))) (.int .u64 t) (.slice (some ⟨g, 0, none⟩) ((L (t, f)).length + 1) cap)).run Try.prog w1 = .ok () w2 ∧
        VMap Try.prog 32 w2 (Grp.blk Mr Mw f) (grow (F (uk t)) n) (upd F (uk t) (.slice (some ⟨g, 0, none⟩) ((L (t, f)).length + 1) cap)) ∧ w1.mapTurned w2 (Grp.blk Mr Mw f) := by
  obtain ⟨F, n, hn, hv, hF⟩ := h.look f
  have hv1 : VMap Try.prog 32 wr.drew (Grp.blk Mr Mw f) n F := hv.congr rfl
  have hv2 : VMap Try.prog 32 (wr.alloc (.cells #[.string s] 9)).drew (Grp.blk Mr Mw f) n F := VMap.congr (w' := (wr.alloc (.cells #[.string s] 9)).drew) (hv.alloc (.cells #[.string s] 9)) rfl
  refine ⟨F, n, hn, hF, ?_, ?_, World.ownsRow.alloc (h.fam.rows (t, f)) _, fun j hj => ((h.fam.rows (t, f)).block hj).1, fun w1 g cap hg => ?_⟩
  · have := hv1.look law32 Try.underlying31 (zero36 _) (key32 ht)
    rw [hF] at this; exact this
  · have := hv2.look law32 Try.underlying31 (zero36 _) (key32 ht)
    rw [hF] at this; exact this
  · have hv3 : VMap Try.prog 32 w1 (Grp.blk Mr Mw f) n F := hv2.kept hg (fun e => by
      obtain ⟨_, cur, hcc⟩ := (h.fam.rows (t, f)).block e.symm
      obtain ⟨es, cl, hm⟩ := hv.isMap
      rw [hm] at hcc; cases hcc)
    exact hv3.store law32 Try.underlying31 (by unfold maxLen; omega) (key32 ht)

set_option maxRecDepth 100000 in
set_option maxHeartbeats 8000000 in
theorem whole_walk (a : Option Addr) (n c : Nat) (O : Nat → OpR) (all : Bool) (w : World) (hS : IsOps w a n O) :
    Calls Try.prog 3 #[.slice a n c, .bool all] w fun e w' => e = .returned (.bool true) ∧ Below w.heap.size w w' := by
  have HS := hid hS
  clear hS
  have hmm := @run_makeMap Try.prog
  go_enter Try.func3, Try.ntmps3
  go_wp2_with fail
  refine (bytesDecl_any 7 (Or.inl rfl) a n c O all w HS.out).mono ?_
  rintro e w' ⟨r, rfl, rfl⟩
  cases r
  · go_wp2_with fail
    go_ret
    exact ⟨rfl, Below.refl _ _⟩
  go_wp2_with fail
  refine (opsTooBig_any a n c O w HS.out).mono ?_
  rintro e w' ⟨r, rfl, rfl, hshort⟩
  cases r
  rotate_left
  · clear hshort
    go_wp2_with fail
    go_ret
    exact ⟨rfl, Below.refl _ _⟩
  have hn := hshort rfl
  clear hshort
  go_wp2_with fail
  refine (toOps_any a n c O w HS.out hn).mono ?_
  rintro e w1 ⟨a1, c1, rfl, hs1, hb1⟩
  have HS1 := hid hs1
  have HB1 := hid hb1
  clear hs1 hb1
  go_wp2_with fail
  refine (zzDecl_any a1 n c1 O all w1 HS1.out hn).mono ?_
  rintro e w2 ⟨blk, V, rfl, hb2, hd2, hI⟩
  have HB2 := hid (HB1.out.trans (hb2.mono HB1.out.size))
  have HD2 := hid hd2
  have HI := hid hI
  clear hb2 hd2 hI HS1
  go_wp2_with fail
  refine (last_any a n c O all w2 (HS.out.below HB2.out) hn).mono ?_
  rintro e w3 ⟨rfl, hb3, hl3⟩
  have HB3 := hid (HB2.out.trans (hb3.mono HB2.out.size))
  have HD3 := hid (HD2.out.below hb3)
  have HL3 := hid hl3
  have HS3 := hid (HS.out.below HB3.out)
  clear hb3 hl3 HD2 HS HB1 HB2
  go_wp2_with fail
  go_loopg [9] n (fun g i wr => ∃ k, g = n - k ∧ WholeR w3 n O all k i wr)
  case atStart => exact ⟨0, rfl, Nat.zero_le _, rfl, ((Below.refl _ _).alloc (Nat.le_refl _) _).alloc (by simp) _, _, Grp.start w3 O all n⟩
  case round =>
    obtain ⟨k, hg, hrel⟩ := hrel
    have HREL := hid hrel
    obtain ⟨hk, rfl, hbel, V2, hG⟩ := hrel
    have HG := hid hg
    have HB := hid hbel
    have HGR := hid hG
    clear hg hbel hG hmm
    by_cases hlt : k < n
    · obtain ⟨b, off, rfl, hb, hat, hok⟩ := HS3.out.2 k hlt
      obtain ⟨q0, q1, q2, q3, q4, q5, q6⟩ := hat.below HB.out hb
      obtain ⟨_, hit, ht, _⟩ := hok
      have HT := hid ht
      clear hat ht hit
      have hBs : w3.heap.size ≤ wr.heap.size := HB.out.size
      have hbw : b < wr.heap.size := by omega
      have ll := (HL3.out.below HB.out HL3.out.lt).look HT.out
      cases hla : lastD O all n (O k).txn with
      | none =>
        rw [hla] at ll
        simp only [Option.map_none, Option.getD_none, Option.isSome_none] at ll
        have HLA := hid hla
        clear hla
        go_wp2_with fail
        go_roundg (n - (k + 1))
        case measure => rw [HG.out]; omega
        case rel => exact ⟨k + 1, rfl, HREL.out.idle hlt (fun f h => by have h1 := h.1; unfold after at h1; rw [HLA.out] at h1; cases h1)⟩
      | some bb =>
        rw [hla] at ll
        simp only [Option.map_some, Option.getD_some, Option.isSome_some] at ll
        have HLA := hid hla
        clear hla
        by_cases hbk : (k : Int) ≤ (bb : Int)
        · go_wp2_with fail
          go_roundg (n - (k + 1))
          case measure => rw [HG.out]; omega
          case rel => exact ⟨k + 1, rfl, HREL.out.idle hlt (fun f h => by have h1 := h.1; unfold after at h1; rw [HLA.out] at h1; simp at h1; omega)⟩
        · have HAF : Hid (after O all n (O k).txn k = true) := by unfold Hid after; rw [HLA.out]; simp; omega
          cases hk2 : ((O k).kind == 2)
          · cases hk3 : ((O k).kind == 3)
            · go_wp2_with fail
              go_roundg (n - (k + 1))
              case measure => rw [HG.out]; omega
              case rel =>
                refine ⟨k + 1, rfl, HREL.out.idle hlt (fun f h => ?_)⟩
                have h1 := h.2
                cases f
                · rw [h1] at hk2; cases hk2
                · rw [h1] at hk3; cases hk3
            · have HKF : Hid ((O k).kind = kindOf true) := by simpa [Hid, kindOf] using hk3
              obtain ⟨F, n2, hn2, hF, la, lb, hrow, hrb, hst⟩ := HGR.out.ready true (O k).txn HT.out (O k).item (by omega)
              have HF := hid hF
              have HN2 := hid hn2
              have HROW := hid hrow
              have HRB := hid hrb
              have HST := hid hst
              have HBB := hid (HGR.out.blkB true)
              obtain ⟨i0, hi0, hz0, hz1, hz2⟩ := info_parts info9
              have HLEN : Hid ((L2 O all n k ((O k).txn, true)).length ≤ k) := items2_len O all n true (O k).txn k
              have H63 : Hid ((L2 O all n k ((O k).txn, true)).length + 1 ≤ maxLen) := by have := HLEN.out; unfold Hid maxLen; omega
              have HBY : Hid (((L2 O all n k ((O k).txn, true)).length + 1) * 16 ≤ 140737488355328) := by have := HLEN.out; unfold Hid; omega
              clear hF hn2 hrow hrb hst
              simp only [Grp.blk, if_true, Bool.false_eq_true, if_false] at la lb
              go_wp2_with fail
              go_region_law ((refine step_append_lies _ (by rfl) _ _ _ (by rfl) w3.heap.size 9 i0 _ 1 16 Try.underlying36 hi0 hz0 hz1 hz2 rfl (by omega) (V2 ((O k).txn, true)) (L2 O all n k ((O k).txn, true)).length ((L2 O all n k ((O k).txn, true)).map Value.string) (by rfl) HROW.out ⟨wr.heap.size, 0, none⟩ 1 1 [.string (O k).item] (by rfl) (by rfl) (World.news_of_block (cs := #[.string (O k).item]) (t := 9) (fr := (0, 0)) (heap_alloc_new wr _)) (by simp [Value.oneCell']) (by omega) H63.out HBY.out (by simp; omega) (wr.heap.size + 1) (by simp) ?_; intro g cap w1 hown hgrow hatg hltg; obtain ⟨w2', hrun, hv2, ht2⟩ := HST.out w1 g cap hgrow; simp only [Grp.blk, if_true, Bool.false_eq_true, if_false] at hrun; have HOWN := hid hown; have HGROW := hid hgrow; have HAT := hid hatg; have HV2 := hid hv2; have HT2 := hid ht2; clear hown hgrow hatg hltg hv2 ht2))
              all_goals
                go_wp2_with fail
                go_roundg (n - (k + 1))
                case measure => rw [HG.out]; omega
                case rel => exact ⟨k + 1, rfl, WholeR.grown true hlt (below_turned (((HB.out.alloc hBs _).drew).grown HGROW.out (by simp; omega) HRB.out) HT2.out HBB.out) HAF.out HKF.out (Grp.appended (W := (wr.alloc (.cells #[.string (O k).item] 9)).drew) (C := #[.string (O k).item]) HGR.out true rfl HN2.out HF.out HOWN.out HGROW.out HAT.out HV2.out HT2.out)⟩
          · have HKF : Hid ((O k).kind = kindOf false) := by simpa [Hid, kindOf] using hk2
            obtain ⟨F, n2, hn2, hF, la, lb, hrow, hrb, hst⟩ := HGR.out.ready false (O k).txn HT.out (O k).item (by omega)
            have HF := hid hF
            have HN2 := hid hn2
            have HROW := hid hrow
            have HRB := hid hrb
            have HST := hid hst
            have HBB := hid (HGR.out.blkB false)
            obtain ⟨i0, hi0, hz0, hz1, hz2⟩ := info_parts info9
            have HLEN : Hid ((L2 O all n k ((O k).txn, false)).length ≤ k) := items2_len O all n false (O k).txn k
            have H63 : Hid ((L2 O all n k ((O k).txn, false)).length + 1 ≤ maxLen) := by have := HLEN.out; unfold Hid maxLen; omega
            have HBY : Hid (((L2 O all n k ((O k).txn, false)).length + 1) * 16 ≤ 140737488355328) := by have := HLEN.out; unfold Hid; omega
            clear hF hn2 hrow hrb hst
            simp only [Grp.blk, if_true, Bool.false_eq_true, if_false] at la lb
            go_wp2_with fail
            go_region_law ((refine step_append_lies _ (by rfl) _ _ _ (by rfl) w3.heap.size 9 i0 _ 1 16 Try.underlying36 hi0 hz0 hz1 hz2 rfl (by omega) (V2 ((O k).txn, false)) (L2 O all n k ((O k).txn, false)).length ((L2 O all n k ((O k).txn, false)).map Value.string) (by rfl) HROW.out ⟨wr.heap.size, 0, none⟩ 1 1 [.string (O k).item] (by rfl) (by rfl) (World.news_of_block (cs := #[.string (O k).item]) (t := 9) (fr := (0, 0)) (heap_alloc_new wr _)) (by simp [Value.oneCell']) (by omega) H63.out HBY.out (by simp; omega) (wr.heap.size + 1) (by simp) ?_; intro g cap w1 hown hgrow hatg hltg; obtain ⟨w2', hrun, hv2, ht2⟩ := HST.out w1 g cap hgrow; simp only [Grp.blk, if_true, Bool.false_eq_true, if_false] at hrun; have HOWN := hid hown; have HGROW := hid hgrow; have HAT := hid hatg; have HV2 := hid hv2; have HT2 := hid ht2; clear hown hgrow hatg hltg hv2 ht2))
            all_goals
              go_wp2_with fail
              go_roundg (n - (k + 1))
              case measure => rw [HG.out]; omega
              case rel => exact ⟨k + 1, rfl, WholeR.grown false hlt (below_turned (((HB.out.alloc hBs _).drew).grown HGROW.out (by simp; omega) HRB.out) HT2.out HBB.out) HAF.out HKF.out (Grp.appended (W := (wr.alloc (.cells #[.string (O k).item] 9)).drew) (C := #[.string (O k).item]) HGR.out false rfl HN2.out HF.out HOWN.out HGROW.out HAT.out HV2.out HT2.out)⟩
    · obtain rfl : k = n := by omega
      obtain ⟨Fg, hvg, hFg⟩ := (HD3.out.below HB.out).map
      obtain ⟨Fl, hvl, hFl⟩ := HL3.out.below HB.out HL3.out.lt
      have HVG := hid hvg
      have HFG := hid hFg
      have HVL := hid hvl
      have HDW := hid (HD3.out.below HB.out)
      have HLW := hid (HL3.out.below HB.out HL3.out.lt)
      have HSW := hid (HS3.out.below HB.out)
      clear hvg hFg hvl hFl
      go_wp2_with (first | (at_len; refine wpList_vlen _ rfl _ 25 rfl Try.underlying25 rfl HVG.out ?_) | (at_len; refine wpList_vlen _ rfl _ 29 rfl Try.underlying29 rfl HVL.out ?_))
      clear HREL HG HD3 HL3 HS3
      obtain ⟨W, rfl⟩ : ∃ W : World, W = wr := ⟨_, rfl⟩
      go_loopg [13] k (fun g i wq => ∃ j m : Nat, g = k - j ∧ j ≤ k ∧ i = .int .i64 j ∧ wq = W.drewN m)
      case atStart => exact ⟨0, 0, rfl, Nat.zero_le _, rfl, rfl⟩
      case round =>
        obtain ⟨j, m, hg, hj, rfl, rfl⟩ := hrel
        have HG := hid hg
        clear hg
        by_cases hlt : j < k
        · obtain ⟨b, off, rfl, hb, hat, hok⟩ := HSW.out.2 j hlt
          obtain ⟨q0, q1, q2, q3, q4, q5, q6⟩ := hat
          obtain ⟨_, _, ht, _⟩ := hok
          have HT := hid ht
          clear ht
          have ll : (Instr.lookup 29 (.map (some w2.heap.size)) (.int .u64 (O j).txn) true).run Try.prog (W.drewN m) = _ := IsLast.look (w := W.drewN m) HLW.out HT.out
          cases hla : lastD O all k (O j).txn with
          | none =>
            rw [hla] at ll
            simp only [Option.map_none, Option.getD_none, Option.isSome_none] at ll
            clear hla
            go_wp2_with fail
            go_roundg (k - (j + 1))
            case measure => rw [HG.out]; omega
            case rel => exact ⟨j + 1, m, rfl, by omega, by go_num, rfl⟩
          | some bb =>
            rw [hla] at ll
            simp only [Option.map_some, Option.getD_some, Option.isSome_some] at ll
            by_cases hbk : bb = j
            · subst hbk
              have HLA := hid hla
              have hsome := HI.out (O bb).txn
              rw [hla] at hsome
              obtain ⟨db, hdb⟩ := Option.isSome_iff_exists.1 (hsome.trans rfl)
              have lg : (Instr.lookup 25 (.map (some w1.heap.size)) (.int .u64 (O bb).txn) false).run Try.prog (W.drewN m) = _ := VMap.look (w := W.drewN m) (HVG.out.congr rfl) law38 Try.underlying25 (zero37 _) (key38 HT.out)
              rw [HFG.out, hdb] at lg
              simp only [Option.map_some, Option.getD_some] at lg
              obtain ⟨_, hdc⟩ := HDW.out.cell _ _ hdb
              have hpr : prD O all k (O bb).txn = (O bb).prio := by unfold prD; rw [hla]
              rw [hpr] at hdc
              have hc0 : W.cell? ⟨db, 0, none⟩ = some (.int .i64 (O bb).prio) := by simp [World.cell?, hdc]
              have hc1 : W.cell? ⟨db, 1, none⟩ = some (V ((O bb).txn, false)) := by simp [World.cell?, hdc]
              have hc2 : W.cell? ⟨db, 2, none⟩ = some (V ((O bb).txn, true)) := by simp [World.cell?, hdc]
              obtain ⟨Fr, nr, hnr, hvr, hFr⟩ := HGR.out.look false
              obtain ⟨Fw, nw, hnw, hvw, hFw⟩ := HGR.out.look true
              have lr : ∀ q, (Instr.lookup 31 (.map (some w3.heap.size)) (.int .u64 (O bb).txn) false).run Try.prog (W.drewN q) = .ok (V2 ((O bb).txn, false)) (W.drewN q) := fun q => by
                have := VMap.look (w := W.drewN q) (hvr.congr rfl) law32 Try.underlying31 (zero36 _) (key32 HT.out)
                rw [hFr] at this; exact this
              have lw : ∀ q, (Instr.lookup 31 (.map (some (w3.heap.size + 1))) (.int .u64 (O bb).txn) false).run Try.prog (W.drewN q) = .ok (V2 ((O bb).txn, true)) (W.drewN q) := fun q => by
                have := VMap.look (w := W.drewN q) (hvw.congr rfl) law32 Try.underlying31 (zero36 _) (key32 HT.out)
                rw [hFw] at this; exact this
              have hlen : ∀ f, (itemsD O all f k (O bb).txn).length ≤ 16384 := fun f => Nat.le_trans (itemsD_len O all f (O bb).txn k) hn
              have hR1 : ∀ f, RowS W w1.heap.size (V ((O bb).txn, f)) (itemsD O all f k (O bb).txn) := fun f => HDW.out.fam.rows ((O bb).txn, f)
              have hR2 : ∀ f, RowS W w3.heap.size (V2 ((O bb).txn, f)) (itemsD O all f k (O bb).txn) := fun f => by
                have := HGR.out.fam.rows ((O bb).txn, f)
                rwa [show L2 O all k k ((O bb).txn, f) = itemsD O all f k (O bb).txn from items_whole O all k f _ bb hla] at this
              have C1 : Hid (∀ q, Calls Try.prog 13 #[V ((O bb).txn, false), V2 ((O bb).txn, false)] (W.drewN q) fun e w' => e = .returned (.bool true) ∧ ∃ m, w' = (W.drewN q).drewN m) := fun q => same_any (w := W.drewN q) (hR1 false) (hR2 false) (hlen false)
              have C2 : Hid (∀ q, Calls Try.prog 13 #[V ((O bb).txn, true), V2 ((O bb).txn, true)] (W.drewN q) fun e w' => e = .returned (.bool true) ∧ ∃ m, w' = (W.drewN q).drewN m) := fun q => same_any (w := W.drewN q) (hR1 true) (hR2 true) (hlen true)
              clear hla hsome hdb hdc hpr hnr hvr hFr hnw hvw hFw hlen hR1 hR2
              have hjl : (bb : Int) < (k : Int) := by omega
              go_wp2_with fail
              go_quiet ((go_at_call 12; exact quietS (prio_any _ _ _ hc0)))
              go_wp2_with fail
              go_quiet (first | (go_at_call 14; exact quietS (reads_any _ _ _ hc1)) | (go_at_call 13; exact quietD (C1.out _)))
              go_wp2_with fail
              go_quiet (first | (go_at_call 15; exact quietS (writes_any _ _ _ hc2)) | (go_at_call 13; exact quietD (C2.out _)))
              go_wp2_with fail
              go_roundg (k - (bb + 1))
              case measure => rw [HG.out]; omega
              case rel => exact ⟨bb + 1, _, rfl, by omega, by go_num, rfl⟩
            · have hne : ((bb : Int) == (j : Int)) = false := by simp; omega
              clear hla hbk
              go_wp2_with fail
              go_roundg (k - (j + 1))
              case measure => rw [HG.out]; omega
              case rel => exact ⟨j + 1, m, rfl, by omega, by go_num, rfl⟩
        · obtain rfl : j = k := by omega
          go_wp2_with fail
          go_ret
          exact ⟨rfl, below_drewN (HB3.out.trans (HB.out.mono HB3.out.size)) _⟩

end Go.Proofs.Qxb6617267a
