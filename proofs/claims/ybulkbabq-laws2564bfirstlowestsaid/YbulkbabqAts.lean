import Derived.Test.YbulkbabqLay
namespace Go.Proofs.Ybulkbabq
open Go.ChangeShapes Go.WideShapes Go.ChangeAt Go.RowKit Go.Maps
set_option linter.unusedVariables false
theorem Ats.one {w wr : World} {G A O n k : Nat} {P : Nat → Nat} {F T C E S : Nat → Int} (h : Ats w wr G A O n k P F T C E S) {i j : Nat} (hi : i < k) (hj : j < k) (e : P i = P j) : i = j := by
  rcases Nat.lt_trichotomy i j with hl | rfl | hl
  · have := h.inj i j hl hj; omega
  · rfl
  · have := h.inj j i hl hi; omega
theorem ats_lower {w wr : World} {G A O n : Nat} {P : Nat → Nat} {F T C E S : Nat → Int} (h : Ats w wr G A O n n P F T C E S) (m i : Nat) (hm : m < n) (hi : i < n) (hn : n ≤ 256) (r : Bool) (hr : tgt C E S m i = r) :
    Calls Yba.prog 7 #[.slice (some ⟨A, 0, none⟩) n n, .slice (some ⟨O, 0, none⟩) n n, .int .i64 m, .int .i64 i] wr fun e w' => e = .returned (.bool r) ∧ ∃ k, w' = wr.drewN k := by
  have := lower_any (O + 1) n n n A O m i (P m) (P i) (lim (C m) (E m) (S m)) (lim (C i) (E i) (S i)) (decide (0 < S m)) (decide (0 < S i)) wr hm hi hn (h.pt m hm) (h.pt i hi) (h.mark m hm) (h.mark i hi) (h.int m hm) (h.int i hi) (fun e => by rw [h.one hm hi e])
  rw [tgt_is, hr] at this
  exact this
theorem ats_equal {w wr : World} {G A O n : Nat} {P : Nat → Nat} {F T C E S : Nat → Int} (h : Ats w wr G A O n n P F T C E S) (m i : Nat) (hm : m < n) (hi : i < n) (hn : n ≤ 256) (r : Bool) (hr : eqt C E S m i = r) :
    Calls Yba.prog 8 #[.slice (some ⟨A, 0, none⟩) n n, .slice (some ⟨O, 0, none⟩) n n, .int .i64 m, .int .i64 i] wr fun e w' => e = .returned (.bool r) ∧ ∃ k, w' = wr.drewN k := by
  have := equal_any (O + 1) n n n A O m i (P m) (P i) (lim (C m) (E m) (S m)) (lim (C i) (E i) (S i)) (decide (0 < S m)) (decide (0 < S i)) wr hm hi hn (h.pt m hm) (h.pt i hi) (h.mark m hm) (h.mark i hi) (h.int m hm) (h.int i hi) (fun e => by rw [h.one hm hi e])
  rw [← hr]
  exact this
theorem below_dn {w : World} {n : Nat} : Below w.heap.size w (w.drewN n) := below_drewN (Below.refl _ _) n
end Go.Proofs.Ybulkbabq
