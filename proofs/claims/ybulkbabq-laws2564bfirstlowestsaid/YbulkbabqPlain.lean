import Derived.Test.YbulkbabqTightest
namespace Go.Proofs.Ybulkbabq
set_option linter.unusedVariables false
variable {key : Nat → Int × Int} {tg : Nat → Nat → Bool}

theorem bless_irr (a oa : Int) : bless a oa a oa = false := by simp [bless]
theorem bless_trans {a oa b ob c oc : Int} (h : bless a oa b ob = true) (k : bless b ob c oc = true) : bless a oa c oc = true := by
  simp [bless] at *
  omega

/-- What is kept of the first k: no key twice; every key; none tighter. -/
structure Good (key : Nat → Int × Int) (tg : Nat → Nat → Bool) (k : Nat) (L : List Nat) : Prop where
  once : L.Pairwise (fun x y => key x ≠ key y)
  all : ∀ i, i < k → ∃ j ∈ L, key j = key i
  least : ∀ i, i < k → ∀ j ∈ L, key j = key i → tg i j = false

theorem pairwise_map {L : List Nat} : L.Pairwise (fun x y => key x ≠ key y) ↔ (L.map key).Pairwise (· ≠ ·) := by
  rw [List.pairwise_map]

theorem keptOf_good (irr : ∀ i, tg i i = false) (tr : ∀ i j k, tg i j = true → tg j k = true → tg i k = true) : ∀ k, Good key tg k (keptOf key tg k)
  | 0 => ⟨by simp [keptOf], fun i h => by omega, fun i h => by omega⟩
  | k + 1 => by
    have ih := keptOf_good irr tr k
    cases hi : idx key (keptOf key tg k) (key k) with
    | none =>
      have hn := idx_none hi
      rw [keptOf_none hi]
      refine ⟨?_, fun i h => ?_, fun i h j hj e => ?_⟩
      · rw [List.pairwise_append]
        exact ⟨ih.once, by simp, fun a ha b hb => by simp at hb; subst hb; exact hn a ha⟩
      · by_cases hk : i = k
        · subst hk; exact ⟨i, by simp, rfl⟩
        · obtain ⟨j, hj, e⟩ := ih.all i (by omega)
          exact ⟨j, by simp [hj], e⟩
      · simp at hj
        rcases hj with hj | rfl
        · by_cases hk : i = k
          · subst hk; exact absurd e (hn j hj)
          · exact ih.least i (by omega) j hj e
        · by_cases hk : i = j
          · subst hk; exact irr i
          · obtain ⟨j', hj', e'⟩ := ih.all i (by omega)
            exact absurd (e'.trans e.symm) (hn j' hj')
    | some a =>
      obtain ⟨ha, hka⟩ := idx_some hi
      have hmem : (keptOf key tg k).getD a 0 ∈ keptOf key tg k := by
        simp only [List.getD, List.getElem?_eq_getElem ha, Option.getD_some]; exact List.getElem_mem ha
      cases ht : tg k ((keptOf key tg k).getD a 0) with
      | true =>
        rw [keptOf_hit hi ht]
        have hin : ∀ j, j ∈ (keptOf key tg k).set a k → j = k ∨ (j ∈ keptOf key tg k) := fun j hj => by
          rcases List.mem_or_eq_of_mem_set hj with h | h
          · exact .inr h
          · exact .inl h
        have hkin : k ∈ (keptOf key tg k).set a k := List.mem_set ha k
        refine ⟨?_, fun i h => ?_, fun i h j hj e => ?_⟩
        · rw [pairwise_map, map_set hi, ← pairwise_map]
          exact ih.once
        · by_cases hk : i = k
          · subst hk; exact ⟨i, hkin, rfl⟩
          · obtain ⟨j, hj, e⟩ := ih.all i (by omega)
            by_cases hq : j = (keptOf key tg k).getD a 0
            · subst hq
              exact ⟨k, hkin, hka.symm.trans e⟩
            · refine ⟨j, ?_, e⟩
              obtain ⟨n, hn, rfl⟩ := List.getElem_of_mem hj
              have hna : a ≠ n := fun e => hq (by subst e; simp [List.getD, ha])
              have : ((keptOf key tg k).set a k)[n]'(by simpa using hn) = (keptOf key tg k)[n] := by simp [hna]
              rw [← this]
              exact List.getElem_mem _
        · rcases hin j hj with rfl | hj'
          · by_cases hk : i = j
            · subst hk; exact irr i
            · cases hb : tg i j with
              | false => rfl
              | true =>
                have := tr _ _ _ hb ht
                rw [ih.least i (by omega) _ hmem (hka.trans e)] at this
                cases this
          · by_cases hk : i = k
            · subst hk
              cases hb : tg i j with
              | false => rfl
              | true =>
                exfalso
                have hj0 : j < i := keptOf_lt i j hj'
                obtain ⟨n, hn, hnj⟩ := List.getElem_of_mem hj
                simp at hn
                by_cases hna : a = n
                · subst hna
                  simp at hnj
                  omega
                · simp [hna] at hnj
                  have hw := (List.pairwise_iff_getElem.1 ih.once)
                  have hka' : key (keptOf key tg i)[a] = key i := by simpa [List.getD, ha] using hka
                  rcases Nat.lt_or_ge a n with h1 | h1
                  · exact hw a n ha hn h1 (hka'.trans (by rw [hnj]; exact e.symm))
                  · exact hw n a hn ha (by omega) ((by rw [hnj]; exact e : key (keptOf key tg i)[n] = key i).trans hka'.symm)
            · exact ih.least i (by omega) j hj' e
      | false =>
        rw [keptOf_miss hi ht]
        refine ⟨ih.once, fun i h => ?_, fun i h j hj e => ?_⟩
        · by_cases hk : i = k
          · subst hk; exact ⟨_, hmem, hka⟩
          · exact ih.all i (by omega)
        · by_cases hk : i = k
          · subst hk
            by_cases hq : j = (keptOf key tg i).getD a 0
            · subst hq; exact ht
            · exfalso
              obtain ⟨n, hn, hnj⟩ := List.getElem_of_mem hj
              have hna : a ≠ n := fun h => hq (by subst h; simp [List.getD, ha, hnj])
              have hw := (List.pairwise_iff_getElem.1 ih.once)
              have hka' : key (keptOf key tg i)[a] = key i := by simpa [List.getD, ha] using hka
              rcases Nat.lt_or_ge a n with h1 | h1
              · exact hw a n ha hn h1 (hka'.trans (by rw [hnj]; exact e.symm))
              · exact hw n a hn ha (by omega) ((by rw [hnj]; exact e : key (keptOf key tg i)[n] = key i).trans hka'.symm)
          · exact ih.least i (by omega) j hj e
theorem kept_good (F T C E S : Nat → Int) (k : Nat) : Good (ky F T) (tgt C E S) k (keptOf (ky F T) (tgt C E S) k) :=
  keptOf_good (tg := tgt C E S) (fun i => bless_irr _ _) (fun i j k h1 h2 => bless_trans (show bless _ _ _ _ = true from h1) (show bless _ _ _ _ = true from h2)) k
end Go.Proofs.Ybulkbabq
