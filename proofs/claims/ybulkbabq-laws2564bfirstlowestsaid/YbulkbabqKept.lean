import Derived.Test.YbulkbabqKeys
namespace Go.Proofs.Ybulkbabq
open Go.ChangeShapes Go.WideShapes Go.ChangeAt Go.RowKit Go.WideMaps
set_option linter.unusedVariables false

/-- Where a key stands among those kept. -/
def idx (key : Nat → Int × Int) (kept : List Nat) (x : Int × Int) : Option Nat := (kept.map key).findIdx? (· == x)
def step (key : Nat → Int × Int) (tg : Nat → Nat → Bool) (kept : List Nat) (i : Nat) : List Nat :=
  match idx key kept (key i) with
  | none => kept ++ [i]
  | some a => if tg i (kept.getD a 0) then kept.set a i else kept
/-- What 'tightest' keeps of the first k. -/
def keptOf (key : Nat → Int × Int) (tg : Nat → Nat → Bool) : Nat → List Nat
  | 0 => []
  | k + 1 => step key tg (keptOf key tg k) k

variable {key : Nat → Int × Int} {tg : Nat → Nat → Bool} {kept : List Nat}

theorem idx_some {x : Int × Int} {a : Nat} (h : idx key kept x = some a) : a < kept.length ∧ key (kept.getD a 0) = x := by
  unfold idx at h
  obtain ⟨h1, h2, _⟩ := List.findIdx?_eq_some_iff_getElem.1 h
  simp at h1 h2
  refine ⟨h1, ?_⟩
  simpa [List.getD, h1] using h2
theorem idx_none {x : Int × Int} (h : idx key kept x = none) : ∀ j ∈ kept, key j ≠ x := by
  unfold idx at h
  rw [List.findIdx?_eq_none_iff] at h
  intro j hj he
  have := h (key j) (List.mem_map_of_mem hj)
  simp [he] at this
theorem idx_snoc (i : Nat) (h : idx key kept (key i) = none) (x : Int × Int) : idx key (kept ++ [i]) x = if key i = x then some kept.length else idx key kept x := by
  unfold idx at *
  rw [List.map_append, List.findIdx?_append]
  by_cases hx : key i = x
  · subst hx
    simp [h]
  · simp [hx]
theorem map_set {a i : Nat} (h : idx key kept (key i) = some a) : (kept.set a i).map key = kept.map key := by
  obtain ⟨h1, h2⟩ := idx_some h
  apply List.ext_getElem
  · simp
  · intro n h3 h4
    simp [List.getElem_set]
    intro e
    subst e
    simp at h4
    simpa [List.getD, h4] using h2.symm
theorem idx_set {a i : Nat} (h : idx key kept (key i) = some a) (x : Int × Int) : idx key (kept.set a i) x = idx key kept x := by
  unfold idx
  rw [map_set h]

/-- The map tells of each key where it stands. -/
def MapOk (key : Nat → Int × Int) (D : DataW Unit) (kept : List Nat) : Prop :=
  ∀ f t : Int, (Lit.int .i64 f).wf = true → (Lit.int .i64 t).wf = true →
    (∀ a, idx key kept (f, t) = some a → Maps.has D (KL f t) = true ∧ D.atKey (KL f t) (.lit (.int .i64 0)) = .lit (.int .i64 (a : Nat))) ∧ (idx key kept (f, t) = none → Maps.has D (KL f t) = false)

theorem mapOk_nil : MapOk key (.map []) [] := by
  intro f t hf ht
  refine ⟨fun a h => ?_, fun _ => ?_⟩
  · simp [idx] at h
  · simp [Maps.has]
theorem mapOk_set {D : DataW Unit} {a i : Nat} (h : idx key kept (key i) = some a) (hM : MapOk key D kept) : MapOk key D (kept.set a i) := by
  intro f t hf ht
  rw [idx_set h]
  exact hM f t hf ht
theorem mapOk_snoc {D : DataW Unit} {i : Nat} (f0 t0 : Int) (hk : key i = (f0, t0)) (hf0 : (Lit.int .i64 f0).wf = true) (ht0 : (Lit.int .i64 t0).wf = true) (h : idx key kept (key i) = none) (hD : Maps.IsMap D) (hM : MapOk key D kept) :
    MapOk key (D.put (KL f0 t0) (.lit (.int .i64 (kept.length : Nat)))) (kept ++ [i]) := by
  intro f t hf ht
  rw [idx_snoc i h, hk]
  by_cases he : (f0, t0) = (f, t)
  · simp at he
    obtain ⟨rfl, rfl⟩ := he
    refine ⟨fun a ha => ?_, fun ha => ?_⟩
    · simp at ha
      subst ha
      exact ⟨Maps.has_put_same hD (KL_key hf0 ht0) _, Maps.atKey_put_same hD (KL_key hf0 ht0) _ _⟩
    · simp at ha
  · have hne : KL f t ≠ KL f0 t0 := fun e => he (by obtain ⟨rfl, rfl⟩ := KL_inj hf ht hf0 ht0 e; rfl)
    rw [if_neg he, Maps.has_put_other hne, Maps.atKey_put_other hne]
    exact hM f t hf ht

theorem keptOf_lt : ∀ k, ∀ j ∈ keptOf key tg k, j < k
  | 0, j, h => by simp [keptOf] at h
  | k + 1, j, h => by
    have ih := keptOf_lt k
    unfold keptOf step at h
    split at h
    · simp at h
      rcases h with h | h
      · have := ih j h; omega
      · omega
    · split at h
      · rcases List.mem_or_eq_of_mem_set h with h | h
        · have := ih j h; omega
        · omega
      · have := ih j h; omega
theorem keptOf_len : ∀ k, (keptOf key tg k).length ≤ k
  | 0 => by simp [keptOf]
  | k + 1 => by
    have ih := keptOf_len k
    unfold keptOf step
    split
    · simp; omega
    · split
      · simp; omega
      · omega
theorem keptOf_none {k : Nat} (h : idx key (keptOf key tg k) (key k) = none) : keptOf key tg (k + 1) = keptOf key tg k ++ [k] := by
  simp only [keptOf, step, h]
theorem keptOf_hit {k a : Nat} (h : idx key (keptOf key tg k) (key k) = some a) (ht : tg k ((keptOf key tg k).getD a 0) = true) : keptOf key tg (k + 1) = (keptOf key tg k).set a k := by
  simp only [keptOf, step, h, ht, if_true]
theorem keptOf_miss {k a : Nat} (h : idx key (keptOf key tg k) (key k) = some a) (ht : tg k ((keptOf key tg k).getD a 0) = false) : keptOf key tg (k + 1) = keptOf key tg k := by
  simp only [keptOf, step, h, ht, Bool.false_eq_true, if_false]
end Go.Proofs.Ybulkbabq
