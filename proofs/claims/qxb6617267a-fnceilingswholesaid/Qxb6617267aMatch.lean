/-
  'matches' by its contract.
-/
import Derived.Test.Qxb6617267aNote
namespace Go.Proofs.Qxb6617267a
open Go.ChangeShapes Go.WideShapes Go.ChangeAt Go.RowKit
open Go.Maps (Keyed)
set_option linter.unusedVariables false
set_option linter.unusedSimpArgs false

theorem nodup_len {α : Type} : ∀ {l₁ l₂ : List α}, l₁.Nodup → (∀ x ∈ l₁, x ∈ l₂) → l₁.length ≤ l₂.length
  | [], _, _, _ => Nat.zero_le _
  | a :: t, l₂, h, hs => by
    obtain ⟨s, r, rfl⟩ := List.append_of_mem (hs a (by simp))
    have hn := List.nodup_cons.1 h
    have := nodup_len (l₁ := t) (l₂ := s ++ r) hn.2 (fun x hx => by
      have h1 := hs x (List.mem_cons_of_mem _ hx)
      have hne : x ≠ a := fun e => hn.1 (e ▸ hx)
      simp only [List.mem_append, List.mem_cons] at h1 ⊢
      rcases h1 with h1 | h1 | h1
      · exact Or.inl h1
      · exact absurd h1 hne
      · exact Or.inr h1)
    simp at this ⊢
    omega

/-- How many entries a map with string keys has. -/
theorem VMap.count {w : World} {b n : Nat} {f : Lit → Option Value} (h : VMap Try.prog 9 w b n f) {l : List ByteArray} (hl : l.Nodup) (hm : ∀ s, s ∈ l ↔ (f (sk s)).isSome = true) : n = l.length := by
  obtain ⟨D, hown, hsz, hf⟩ := h
  obtain ⟨es, clock, hb, F, _, hD⟩ := hown
  have hent : ∃ ks, D = .map ks ∧ ks.Pairwise (fun p q => p.1 ≠ q.1) ∧ ∀ p ∈ ks, (∃ s, p.1 = sk s) ∧ ∃ v, D.atKey p.1 .nil = .held v := by
    refine ⟨_, hD, ((sorted_perm _).pairwise_iff (fun {_ _} hne => Ne.symm hne)).2 (Maps.fit_apart law9 F), fun p hp => ?_⟩
    obtain ⟨x, hx, rfl⟩ := List.mem_map.1 (mem_sorted.1 hp)
    obtain ⟨y, hy⟩ := F.reads x hx
    obtain ⟨z, hz, hzd⟩ := WideElems.rd_val hy
    obtain ⟨zd, zp⟩ := z
    have e1 := Rv_inv hz
    have hkk := WideElems.rd_key hy
    obtain ⟨s, _, hs, _⟩ := WideMaps.string_of_keyOf Try.underlying9 hkk
    have hk := law9.key hkk
    refine ⟨⟨s, by rw [WideElems.rg_of hy]; exact hs⟩, x.val, ?_⟩
    subst hD
    rw [(atKey_sorted (es.toList.map (WideElems.rg Try.prog 9 Rv)) (Maps.fit_rising law9 F) _ (by rw [WideElems.rg_of hy]; exact hk)).2 (WideElems.rg Try.prog 9 Rv x) (List.mem_map.2 ⟨x, hx, rfl⟩) rfl, WideElems.rg_of hy, hzd]
    exact e1
  obtain ⟨ks, rfl, hap, hks⟩ := hent
  have hlen : n = ks.length := hsz.symm
  have nd1 : (ks.map (fun p => p.1)).Nodup := by
    rw [List.Nodup, List.pairwise_map]
    exact hap
  have nd2 : (l.map sk).Nodup := by
    rw [List.Nodup, List.pairwise_map]
    exact hl.imp (fun hne e => hne (sk_inj e))
  have s1 : ∀ x ∈ ks.map (fun p => p.1), x ∈ l.map sk := fun x hx => by
    obtain ⟨p, hp, rfl⟩ := List.mem_map.1 hx
    obtain ⟨⟨s, hs⟩, v, hv⟩ := hks p hp
    refine List.mem_map.2 ⟨s, (hm s).2 ?_, hs.symm⟩
    have hhas : Maps.has (.map ks) p.1 = true := List.any_eq_true.2 ⟨p, hp, by rw [hs]; rw [sk_same]; simp⟩
    rw [← hs, ← hf, getV, hhas, if_pos rfl, hv]
    rfl
  have s2 : ∀ x ∈ l.map sk, x ∈ ks.map (fun p => p.1) := fun x hx => by
    obtain ⟨s, hs, rfl⟩ := List.mem_map.1 hx
    have h1 := (hm s).1 hs
    rw [← hf] at h1
    cases hh : Maps.has (.map ks) (sk s)
    · rw [getV_none hh] at h1; cases h1
    · obtain ⟨p, hp, hpk⟩ := List.any_eq_true.1 hh
      exact List.mem_map.2 ⟨p, hp, WideAt.sameKey_eq hpk⟩
  have e1 := nodup_len nd1 s1
  have e2 := nodup_len nd2 s2
  simp at e1 e2
  omega

end Go.Proofs.Qxb6617267a
