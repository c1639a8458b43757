import Derived.Test.YbulkbabqPlain
import Derived.Test.YbulkbabqLower
namespace Go.Proofs.Ybulkbabq
set_option linter.unusedVariables false
variable {key : Nat → Int × Int} {tg : Nat → Nat → Bool}

/-- s is the first of its key. -/
def fo (key : Nat → Int × Int) (s : Nat) : Prop := ∀ j, j < s → key j ≠ key s
def fob (key : Nat → Int × Int) (s : Nat) : Bool := decide (∀ j, j < s → key j ≠ key s)
theorem fob_true {key : Nat → Int × Int} {s : Nat} (h : fo key s) : fob key s = true := decide_eq_true h
theorem fob_false {key : Nat → Int × Int} {s : Nat} (h : ¬ fo key s) : fob key s = false := decide_eq_false h
/-- How many keys are met below s. -/
def cnt (key : Nat → Int × Int) : Nat → Nat
  | 0 => 0
  | s + 1 => if fob key s then cnt key s + 1 else cnt key s

theorem idx_fo (irr : ∀ i, tg i i = false) (tr : ∀ i j k, tg i j = true → tg j k = true → tg i k = true) (k : Nat) : idx key (keptOf key tg k) (key k) = none ↔ fo key k := by
  have hg := keptOf_good (key := key) irr tr k
  constructor
  · intro h j hj e
    obtain ⟨q, hq, e'⟩ := hg.all j hj
    exact idx_none h q hq (e'.trans e)
  · intro h
    cases hi : idx key (keptOf key tg k) (key k) with
    | none => rfl
    | some a =>
      obtain ⟨ha, hka⟩ := idx_some hi
      have hm : (keptOf key tg k).getD a 0 ∈ keptOf key tg k := by
        simp only [List.getD, List.getElem?_eq_getElem ha, Option.getD_some]; exact List.getElem_mem ha
      exact absurd hka (h _ (keptOf_lt k _ hm))

theorem kept_cnt (irr : ∀ i, tg i i = false) (tr : ∀ i j k, tg i j = true → tg j k = true → tg i k = true) : ∀ k, (keptOf key tg k).length = cnt key k ∧ ∀ s, s < k → fo key s → ((keptOf key tg k).map key)[cnt key s]? = some (key s)
  | 0 => ⟨by simp [keptOf, cnt], fun s h => by omega⟩
  | k + 1 => by
    obtain ⟨h1, h2⟩ := kept_cnt irr tr k
    by_cases hf : fo key k
    · have hi := (idx_fo irr tr k).2 hf
      rw [keptOf_none hi]
      refine ⟨by simp [cnt, fob_true hf, h1], fun s hs hfs => ?_⟩
      rw [List.map_append]
      by_cases hk : s = k
      · subst hk
        rw [List.getElem?_append_right (by simp [h1])]
        simp [h1]
      · have := h2 s (by omega) hfs
        rw [List.getElem?_append_left (by have := (List.getElem?_eq_some_iff.1 this).1; exact this)]
        exact this
    · have hi : idx key (keptOf key tg k) (key k) ≠ none := fun h => hf ((idx_fo irr tr k).1 h)
      cases hi' : idx key (keptOf key tg k) (key k) with
      | none => exact absurd hi' hi
      | some a =>
        have hmap : (keptOf key tg (k + 1)).map key = (keptOf key tg k).map key := by
          cases ht : tg k ((keptOf key tg k).getD a 0) with
          | true => rw [keptOf_hit hi' ht, map_set hi']
          | false => rw [keptOf_miss hi' ht]
        have hlen : (keptOf key tg (k + 1)).length = (keptOf key tg k).length := by
          have := congrArg List.length hmap
          simpa using this
        refine ⟨by rw [hlen, h1]; simp [cnt, fob_false hf], fun s hs hfs => ?_⟩
        rw [hmap]
        by_cases hk : s = k
        · subst hk; exact absurd hfs hf
        · exact h2 s (by omega) hfs

/-- j is the first of the least among the first k of its key. -/
def Best (key : Nat → Int × Int) (tg : Nat → Nat → Bool) (k j : Nat) : Prop := ∀ i, i < k → key i = key j → tg i j = false ∧ (i < j → tg j i = true)

theorem kept_same (irr : ∀ i, tg i i = false) (tr : ∀ i j k, tg i j = true → tg j k = true → tg i k = true) (k : Nat) {a b : Nat} (ha : a < (keptOf key tg k).length) (hb : b < (keptOf key tg k).length) (e : key (keptOf key tg k)[a] = key (keptOf key tg k)[b]) : a = b := by
  have hw := List.pairwise_iff_getElem.1 (keptOf_good (key := key) irr tr k).once
  rcases Nat.lt_trichotomy a b with h | h | h
  · exact absurd e (hw a b ha hb h)
  · exact h
  · exact absurd e.symm (hw b a hb ha h)

theorem kept_best (irr : ∀ i, tg i i = false) (tr : ∀ i j k, tg i j = true → tg j k = true → tg i k = true) (wk : ∀ i j k, tg i j = true → tg k j = false → tg i k = true) : ∀ k, ∀ j ∈ keptOf key tg k, Best key tg k j
  | 0, j, h => by simp [keptOf] at h
  | k + 1, j, hj => by
    have ih := kept_best irr tr wk k
    intro i hi e
    cases hx : idx key (keptOf key tg k) (key k) with
    | none =>
      have hn := idx_none hx
      have hf := (idx_fo irr tr k).1 hx
      rw [keptOf_none hx] at hj
      simp at hj
      rcases hj with hj | rfl
      · by_cases hk : i = k
        · subst hk; exact absurd e.symm (hn j hj)
        · exact ih j hj i (by omega) e
      · by_cases hk : i = j
        · subst hk; exact ⟨irr i, fun h => by omega⟩
        · exact absurd e (hf i (by omega))
    | some a =>
      obtain ⟨ha, hka⟩ := idx_some hx
      have hga : (keptOf key tg k).getD a 0 = (keptOf key tg k)[a] := by simp [List.getD, ha]
      cases ht : tg k ((keptOf key tg k).getD a 0) with
      | true =>
        rw [keptOf_hit hx ht] at hj
        obtain ⟨n, hn, hnj⟩ := List.getElem_of_mem hj
        simp at hn
        by_cases hna : a = n
        · subst hna
          simp at hnj
          subst hnj
          by_cases hk : i = k
          · subst hk; exact ⟨irr i, fun h => by omega⟩
          · have hb := ih _ (List.getElem_mem ha) i (by omega) (by rw [← hga, hka]; exact e)
            rw [← hga] at hb
            have h2 : tg k i = true := wk k _ i ht hb.1
            refine ⟨?_, fun _ => h2⟩
            cases h3 : tg i k with
            | false => rfl
            | true =>
              have := tr _ _ _ h3 h2
              rw [irr] at this
              cases this
        · simp [hna] at hnj
          have hjm : j ∈ keptOf key tg k := hnj ▸ List.getElem_mem hn
          by_cases hk : i = k
          · subst hk
            refine absurd (kept_same irr tr i ha hn ?_) hna
            rw [← hga, hka, hnj]; exact e
          · exact ih j hjm i (by omega) e
      | false =>
        rw [keptOf_miss hx ht] at hj
        by_cases hk : i = k
        · subst hk
          obtain ⟨n, hn, hnj⟩ := List.getElem_of_mem hj
          have hna : a = n := kept_same irr tr i ha hn (by rw [← hga, hka, hnj]; exact e)
          subst hna
          rw [hga, hnj] at ht
          refine ⟨ht, fun h => ?_⟩
          have := keptOf_lt i j hj
          omega
        · exact ih j hj i (by omega) e

theorem bless_wk {a oa b ob c oc : Int} (h : bless a oa b ob = true) (k : bless c oc b ob = false) : bless a oa c oc = true := by
  simp [bless] at *
  omega
theorem blower_is (X Y s t : Int) : blower X Y (decide (0 < s)) (decide (0 < t)) = bless X (opn s) Y (opn t) := by
  unfold blower bless opn
  by_cases h1 : 0 < s <;> by_cases h2 : 0 < t <;> simp [h1, h2]
theorem bequal_of {X Y s t : Int} (h1 : bless X (opn s) Y (opn t) = false) (h2 : bless Y (opn t) X (opn s) = false) : bequal X Y (decide (0 < s)) (decide (0 < t)) = true := by
  unfold bless opn at *
  unfold bequal
  by_cases a1 : 0 < s <;> by_cases a2 : 0 < t <;> simp [a1, a2] at * <;> omega
theorem bequal_no {X Y s t : Int} (h : bless X (opn s) Y (opn t) = true) : bequal Y X (decide (0 < t)) (decide (0 < s)) = false := by
  unfold bless opn at *
  unfold bequal
  by_cases a1 : 0 < s <;> by_cases a2 : 0 < t <;> simp [a1, a2] at * <;> omega

/-- Equal limits. -/
def eqt (C E S : Nat → Int) (i j : Nat) : Bool := bequal (lim (C i) (E i) (S i)) (lim (C j) (E j) (S j)) (decide (0 < S i)) (decide (0 < S j))
theorem tgt_is (C E S : Nat → Int) (i j : Nat) : blower (lim (C i) (E i) (S i)) (lim (C j) (E j) (S j)) (decide (0 < S i)) (decide (0 < S j)) = tgt C E S i j := blower_is _ _ _ _

/-- No other of i's key below n is lower, or equal and before it. -/
def Ok (F T C E S : Nat → Int) (n i : Nat) : Prop := ∀ j, j < n → ky F T j = ky F T i → tgt C E S j i = false ∧ (j < i → eqt C E S j i = false)

section
variable (F T C E S : Nat → Int)
theorem t_irr : ∀ i, tgt C E S i i = false := fun i => bless_irr _ _
theorem t_tr : ∀ i j k, tgt C E S i j = true → tgt C E S j k = true → tgt C E S i k = true := fun i j k h1 h2 => bless_trans (show bless _ _ _ _ = true from h1) (show bless _ _ _ _ = true from h2)
theorem t_wk : ∀ i j k, tgt C E S i j = true → tgt C E S k j = false → tgt C E S i k = true := fun i j k h1 h2 => bless_wk (show bless _ _ _ _ = true from h1) (show bless _ _ _ _ = false from h2)

theorem kept_ok (n : Nat) {j : Nat} (hj : j ∈ keptOf (ky F T) (tgt C E S) n) : Ok F T C E S n j := fun i hi e => by
  have hb := kept_best (key := ky F T) (t_irr C E S) (t_tr C E S) (t_wk C E S) n j hj i hi e
  exact ⟨hb.1, fun h => bequal_no (show bless _ _ _ _ = true from hb.2 h)⟩
theorem ok_lt {n i i' : Nat} (h : Ok F T C E S n i) (h' : Ok F T C E S n i') (hi : i < n) (hi' : i' < n) (e : ky F T i = ky F T i') (hlt : i < i') : False := by
  have a := h' i hi e
  have b := h i' hi' e.symm
  have c : eqt C E S i i' = true := bequal_of (show bless _ _ _ _ = false from a.1) (show bless _ _ _ _ = false from b.1)
  rw [a.2 hlt] at c
  cases c
theorem ok_one {n i i' : Nat} (h : Ok F T C E S n i) (h' : Ok F T C E S n i') (hi : i < n) (hi' : i' < n) (e : ky F T i = ky F T i') : i = i' := by
  rcases Nat.lt_trichotomy i i' with hlt | rfl | hlt
  · exact (ok_lt F T C E S h h' hi hi' e hlt).elim
  · rfl
  · exact (ok_lt F T C E S h' h hi' hi e.symm hlt).elim
/-- The one that is wanted for s. -/
theorem wanted_is (n s : Nat) (hs : s < n) (hf : fo (ky F T) s) : cnt (ky F T) s < (keptOf (ky F T) (tgt C E S) n).length ∧ ∃ q, (keptOf (ky F T) (tgt C E S) n)[cnt (ky F T) s]? = some q ∧ s ≤ q ∧ q < n ∧ ky F T q = ky F T s ∧ Ok F T C E S n q := by
  have h := (kept_cnt (key := ky F T) (t_irr C E S) (t_tr C E S) n).2 s hs hf
  rw [List.getElem?_map] at h
  obtain ⟨q, hq, hk⟩ := Option.map_eq_some_iff.1 h
  have hl := (List.getElem?_eq_some_iff.1 hq).1
  have hm := List.mem_of_getElem? hq
  have hqn := keptOf_lt n q hm
  refine ⟨hl, q, hq, ?_, hqn, hk, kept_ok F T C E S n hm⟩
  refine Classical.byContradiction fun hlt => ?_
  exact hf q (by omega) hk
theorem take_step (n s q : Nat) (hq : (keptOf (ky F T) (tgt C E S) n)[cnt (ky F T) s]? = some q) (hf : fo (ky F T) s) : (keptOf (ky F T) (tgt C E S) n).take (cnt (ky F T) (s + 1)) = (keptOf (ky F T) (tgt C E S) n).take (cnt (ky F T) s) ++ [q] := by
  have hl := (List.getElem?_eq_some_iff.1 hq)
  obtain ⟨hl, e⟩ := hl
  simp only [cnt, fob_true hf, if_true]
  rw [List.take_add_one, hq]
  rfl
theorem take_stay (n s : Nat) (hf : ¬ fo (ky F T) s) : (keptOf (ky F T) (tgt C E S) n).take (cnt (ky F T) (s + 1)) = (keptOf (ky F T) (tgt C E S) n).take (cnt (ky F T) s) := by
  simp [cnt, fob_false hf]
theorem take_all (n : Nat) : (keptOf (ky F T) (tgt C E S) n).take (cnt (ky F T) n) = keptOf (ky F T) (tgt C E S) n := by
  have := (kept_cnt (key := ky F T) (t_irr C E S) (t_tr C E S) n).1
  rw [← this]
  exact List.take_length
theorem cnt_le : ∀ s, cnt (ky F T) s ≤ s
  | 0 => Nat.le_refl _
  | s + 1 => by
    have := cnt_le s
    unfold cnt
    split <;> omega
end
end Go.Proofs.Ybulkbabq
