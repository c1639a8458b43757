import Derived.Test.YbulkbaewBase
namespace Go.Proofs.Ybulkbaew
open Go.ChangeShapes Go.WideShapes Go.ChangeAt Go.RowKit
set_option linter.unusedVariables false

theorem q22 (w : World) (a : Option Addr) (n c n' c' : Nat) : (binOp .eql 22 (.slice a n c) (.slice none n' c')).run Yba.prog w = .ok (.bool a.isNone) w := Lib.run_eql_slice_nil w _ _ a n c n' c' Yba.underlying22
theorem sz5 : (Yba.prog.info? 5).map (·.size) = some 1 := by kernel_rfl

set_option maxHeartbeats 1000000 in
set_option maxRecDepth 100000 in
theorem copy_any (v : Value) (l : List UInt8) (w : World) (hl : l.length ≤ 4096) (hv : Lies w.heap.size w v l) :
    Calls Yba.prog 7 #[v] w fun e w' => ∃ v', e = .returned v' ∧ w'.ownsRow w.heap.size 5 1 v' l.length (C l) ∧ Below w.heap.size w w' := by
  have q := q22
  obtain ⟨i, hi, hz0, hz1, hz2⟩ := info_parts info5
  rcases hv with ⟨rfl, rfl⟩ | ⟨x, cap, rfl, hB, hc⟩
  · go_enter Yba.func7, Yba.ntmps7
    go_wp2
    go_ret
    exact ⟨_, rfl, World.ownsRow_nil _ _ _ _, Below.refl _ _⟩
  have HC := hide hc
  have HBB := hide hB
  clear hc hB
  go_enter Yba.func7, Yba.ntmps7
  go_wp2_with (at_make; go_must (refine wpList_make_full _ rfl _ _ 22 rfl w.heap.size 5 i _ 1 Yba.underlying22 hi hz0 hz1 _ _ _ _ l.length rfl rfl rfl rfl ?q1 ?q2 ?q3 ?_))
  case q1 => rw [hz2]; omega
  case q2 => unfold maxLen; omega
  case q3 => exact Nat.le_refl _
  intro w1 hown hgrow
  have hb1 : Below w.heap.size w w1 := (Below.refl _ w).grown hgrow (Nat.le_refl _) (by intro k hk; cases hk)
  have hcs : ∀ j u, (C l)[j]? = some u → w1.cell? (x.add j) = some u := fun j u hj => by
    rcases HBB.out with rfl | h
    · simp [C] at hj
    · exact (hb1.cell (p := x.add j) (by rw [add_block]; exact h)).trans (HC.out j u hj)
  rcases hown.2 with ⟨h, _⟩ | ⟨g, cap', cur, hv', hg, hh, h1, h2, h3, h4⟩
  · cases h
  injection hv' with e1 e2 e3
  injection e1 with e1
  injection e1 with e1
  subst e1
  subst e3
  have HW := hide (And.intro hb1 (And.intro hcs (And.intro hh h3)))
  clear hown hgrow hb1 hcs hh h1 h2 h3 h4 hg e2 hi hz0 hz1 hz2
  go_wp2_with fail
  have hrun := run_copy_row (P := Yba.prog) w1 22 22 3 5 w.heap.size 0 l.length l.length x l.length cap cur 5 (C l) Yba.underlying22 sz5 HW.out.2.2.1 (by simp [C_length]) HW.out.2.1 (by have := HW.out.2.2.2; simp [C_length]; omega) (C_one l)
  rw [hrun]
  clear hrun
  have e0 : (cur.toList.take 0 ++ C l ++ cur.toList.drop (0 + (C l).length)).toArray = (C l).toArray := by
    have h3 := HW.out.2.2.2
    have : cur.toList.drop (0 + (C l).length) = [] := List.drop_eq_nil_of_le (by simp [C_length]; omega)
    rw [this]
    simp
  rw [e0]
  clear e0
  go_wp2
  go_ret
  refine ⟨_, rfl, ⟨by simp [C_length], .inr ⟨w.heap.size, l.length, (C l).toArray, rfl, Nat.le_refl _, setRow_heap w1 _ cur _ 5 _ HW.out.2.2.1, Nat.le_refl _, by unfold maxLen; omega, by simp [C_length], ?_⟩⟩, below_setRow HW.out.1 (Nat.le_refl _) _⟩
  simp
  exact List.take_of_length_le (by simp [C_length])

set_option maxHeartbeats 1000000 in
set_option maxRecDepth 100000 in
/-- appendString: s between quotes. -/
theorem appendString_any (B n : Nat) (v : Value) (l : List UInt8) (t : ByteArray) (w : World) (hown : w.ownsRow B 5 1 v n (C l)) (hn : n ≤ 500000) (ht : t.size ≤ 4096) (hB : B ≤ w.heap.size) :
    Calls Yba.prog 17 #[v, .string t] w fun e w' => ∃ v', e = .returned v' ∧ w'.ownsRow B 5 1 v' (n + t.size + 2) (C (l ++ [34] ++ t.data.toList ++ [34])) ∧ Kept5 B w w' := by
  have H0 := hide hown
  clear hown
  have hone : ∀ (w : World) (b : Nat), b = w.heap.size → Lies (b + 1) (w.alloc (.cells #[.int .u8 34] 5)) (.slice (some ⟨b, 0, none⟩) 1 1) [34] := fun w b hb => by
    subst hb
    refine .inr ⟨⟨w.heap.size, 0, none⟩, 1, rfl, .inr (by simp), fun j u hj => ?_⟩
    match j, hj with
    | 0, hj => simp [C] at hj; subst hj; simp [Addr.add]
  have HO := hide hone
  clear hone
  go_enter Yba.func17, Yba.ntmps17
  go_wp2_with (at_builtin; go_must (refine wpList_append_bytes rfl _ _ rfl B n _ _ _ _ [34] rfl (by exact H0.out.alloc _) rfl (by exact HO.out w _ rfl) (by simp; omega) (by simp; omega) ?_))
  intro v1 w1 o1 k1
  have K1 : Hid (Kept5 B w w1) := ((Kept5.refl B w).alloc hB _).trans k1
  have O1 : Hid (w1.ownsRow B 5 1 v1 (n + 1) (C (l ++ [34]))) := by rw [Hid, C_append]; exact o1
  have hB1 : B ≤ w1.heap.size := by have := K1.out.bel.size; omega
  clear o1 k1
  go_wp2_with (at_builtin; go_must (refine wpList_append_str rfl _ _ rfl B (n + 1) _ _ t rfl (by exact O1.out) rfl (by omega) hB1 ?_))
  intro v2 w2 o2 k2
  have K2 : Hid (Kept5 B w w2) := K1.out.trans k2
  have O2 : Hid (w2.ownsRow B 5 1 v2 (n + 1 + t.size) (C (l ++ [34] ++ t.data.toList))) := by rw [Hid, C_append]; exact o2
  have hB2 : B ≤ w2.heap.size := by have := K2.out.bel.size; omega
  clear o2 k2 K1 O1
  go_wp2_with (at_builtin; go_must (refine wpList_append_bytes rfl _ _ rfl B (n + 1 + t.size) _ _ _ _ [34] rfl (by exact O2.out.alloc _) rfl (by exact HO.out w2 _ rfl) (by simp; omega) (by simp; omega) ?_))
  intro v3 w3 o3 k3
  have K3 : Hid (Kept5 B w w3) := (K2.out.alloc hB2 _).trans k3
  have O3 : Hid (w3.ownsRow B 5 1 v3 (n + t.size + 2) (C (l ++ [34] ++ t.data.toList ++ [34]))) := by
    rw [Hid, show n + t.size + 2 = n + 1 + t.size + 1 from by omega, show C (l ++ [34] ++ t.data.toList ++ [34]) = C (l ++ 34 :: t.data.toList) ++ C [34] from by simp [C]]; exact o3
  clear o3 k3 K2 O2
  go_wp2
  go_ret
  exact ⟨v3, rfl, O3.out, K3.out⟩

/-- A cell of the template's own box, behind steps that write rows of bytes alone. -/
theorem box_cell {B o : Nat} {w w' : World} {cs : Array Value} {v : Value} (h : Kept5 B (w.alloc (.cells cs 26)) w') (hv : cs[o]? = some v) : w'.cell? ⟨w.heap.size, o, none⟩ = some v := by
  have e : (w.alloc (.cells cs 26)).heap[w.heap.size]? = some (.cells cs 26) := heap_alloc_new w _
  refine h.cell (fun cs' f hh => ?_) ?_
  · rw [e] at hh; injection hh with hh; injection hh with _ hh; cases hh
  · unfold World.cell?
    rw [show (w.alloc (.cells cs 26)).heap[(⟨w.heap.size, o, none⟩ : Addr).block]? = some (.cells cs 26) from e]
    simpa using hv

/-- What Append writes. -/
def written (ds r0 r1 r2 : List UInt8) (a b : ByteArray) : List UInt8 := ds ++ r0 ++ [34] ++ a.data.toList ++ [34] ++ r1 ++ [34] ++ b.data.toList ++ [34] ++ r2

set_option maxHeartbeats 1000000 in
set_option maxRecDepth 100000 in
theorem append_any (B : Nat) (v u0 u1 u2 : Value) (ds r0 r1 r2 : List UInt8) (idf : Bool) (id ts : ByteArray) (w : World) (hown : w.ownsRow B 5 1 v ds.length (C ds))
    (h0 : Lies B w u0 r0) (h1 : Lies B w u1 r1) (h2 : Lies B w u2 r2) (hB : B ≤ w.heap.size)
    (ld : ds.length ≤ 4096) (l0 : r0.length ≤ 4096) (l1 : r1.length ≤ 4096) (l2 : r2.length ≤ 4096) (li : id.size ≤ 4096) (lt : ts.size ≤ 4096) :
    Calls Yba.prog 8 #[.agg #[u0, u1, u2, .bool idf], v, .string id, .string ts] w fun e w' => ∃ v', e = .returned v' ∧ w'.ownsRow B 5 1 v' (ds.length + r0.length + r1.length + r2.length + id.size + ts.size + 4) (C (written ds r0 r1 r2 (if idf then id else ts) (if idf then ts else id))) ∧ Below B w w' := by
  have H0 := hide hown
  have L0 := hide h0
  have L1 := hide h1
  have L2 := hide h2
  clear hown h0 h1 h2
  cases idf with
  | true =>
    go_enter Yba.func8, Yba.ntmps8
    go_wp2_with (at_builtin; go_must (refine wpList_append_bytes rfl _ _ rfl B ds.length B _ _ _ r0 rfl (by exact H0.out.alloc _) rfl (by exact L0.out.later ((Below.refl _ _).alloc hB _)) (by omega) (by simp; omega) ?_))
    intro v1 w1 o1 k1
    have K1 : Hid (Kept5 B (w.alloc (.cells #[u0, u1, u2, .bool true] 26)) w1) := k1
    have O1 : Hid (w1.ownsRow B 5 1 v1 (ds.length + r0.length) (C (ds ++ r0))) := by rw [Hid, C_append]; exact o1
    have hB1 : B ≤ w1.heap.size := by have := K1.out.bel.size; simp at this; omega
    clear o1 k1
    go_wp2_with fail
    refine (appendString_any B (ds.length + r0.length) v1 (ds ++ r0) id w1 O1.out (by omega) (by omega) hB1).mono ?_
    rintro e w2 ⟨v2, rfl, o2, k2⟩
    have K2 : Hid (Kept5 B (w.alloc (.cells #[u0, u1, u2, .bool true] 26)) w2) := K1.out.trans k2
    have hB2 : B ≤ w2.heap.size := by have := k2.bel.size; omega
    have O2 := hide o2
    have c1 : w2.cell? ⟨w.heap.size, 1, none⟩ = some u1 := box_cell K2.out rfl
    clear o2 k2 K1 O1
    go_wp2_with (at_builtin; go_must (refine wpList_append_bytes rfl _ _ rfl B (ds.length + r0.length + id.size + 2) B _ _ _ r1 rfl (by exact O2.out) rfl (by exact L1.out.later (((Below.refl _ _).alloc hB _).trans K2.out.bel)) (by omega) hB2 ?_))
    intro v3 w3 o3 k3
    have K3 : Hid (Kept5 B (w.alloc (.cells #[u0, u1, u2, .bool true] 26)) w3) := K2.out.trans k3
    have hB3 : B ≤ w3.heap.size := by have := k3.bel.size; omega
    have O3 : Hid (w3.ownsRow B 5 1 v3 (ds.length + r0.length + id.size + 2 + r1.length) (C (ds ++ r0 ++ [34] ++ id.data.toList ++ [34] ++ r1))) := by
      rw [Hid]; simpa [C] using o3
    clear o3 k3 K2 O2 c1
    go_wp2_with fail
    refine (appendString_any B (ds.length + r0.length + id.size + 2 + r1.length) v3 _ ts w3 O3.out (by omega) (by omega) hB3).mono ?_
    rintro e w4 ⟨v4, rfl, o4, k4⟩
    have K4 : Hid (Kept5 B (w.alloc (.cells #[u0, u1, u2, .bool true] 26)) w4) := K3.out.trans k4
    have hB4 : B ≤ w4.heap.size := by have := k4.bel.size; omega
    have O4 := hide o4
    have c2 : w4.cell? ⟨w.heap.size, 2, none⟩ = some u2 := box_cell K4.out rfl
    clear o4 k4 K3 O3
    go_wp2_with (at_builtin; go_must (refine wpList_append_bytes rfl _ _ rfl B (ds.length + r0.length + id.size + 2 + r1.length + ts.size + 2) B _ _ _ r2 rfl (by exact O4.out) rfl (by exact L2.out.later (((Below.refl _ _).alloc hB _).trans K4.out.bel)) (by omega) hB4 ?_))
    intro v5 w5 o5 k5
    have HB5 : Hid (Below B w w5) := ((Below.refl _ _).alloc hB _).trans (K4.out.trans k5).bel
    have O5 : Hid (w5.ownsRow B 5 1 v5 (ds.length + r0.length + r1.length + r2.length + id.size + ts.size + 4) (C (written ds r0 r1 r2 id ts))) := by
      rw [Hid, show ds.length + r0.length + r1.length + r2.length + id.size + ts.size + 4 = ds.length + r0.length + id.size + 2 + r1.length + ts.size + 2 + r2.length from by omega]; simpa [C, written] using o5
    clear o5 k5 K4 O4 c2
    go_wp2
    go_ret
    exact ⟨v5, rfl, O5.out, HB5.out⟩
  | false =>
    go_enter Yba.func8, Yba.ntmps8
    go_wp2_with (at_builtin; go_must (refine wpList_append_bytes rfl _ _ rfl B ds.length B _ _ _ r0 rfl (by exact H0.out.alloc _) rfl (by exact L0.out.later ((Below.refl _ _).alloc hB _)) (by omega) (by simp; omega) ?_))
    intro v1 w1 o1 k1
    have K1 : Hid (Kept5 B (w.alloc (.cells #[u0, u1, u2, .bool false] 26)) w1) := k1
    have O1 : Hid (w1.ownsRow B 5 1 v1 (ds.length + r0.length) (C (ds ++ r0))) := by rw [Hid, C_append]; exact o1
    have hB1 : B ≤ w1.heap.size := by have := K1.out.bel.size; simp at this; omega
    clear o1 k1
    go_wp2_with fail
    refine (appendString_any B (ds.length + r0.length) v1 (ds ++ r0) ts w1 O1.out (by omega) (by omega) hB1).mono ?_
    rintro e w2 ⟨v2, rfl, o2, k2⟩
    have K2 : Hid (Kept5 B (w.alloc (.cells #[u0, u1, u2, .bool false] 26)) w2) := K1.out.trans k2
    have hB2 : B ≤ w2.heap.size := by have := k2.bel.size; omega
    have O2 := hide o2
    have c1 : w2.cell? ⟨w.heap.size, 1, none⟩ = some u1 := box_cell K2.out rfl
    clear o2 k2 K1 O1
    go_wp2_with (at_builtin; go_must (refine wpList_append_bytes rfl _ _ rfl B (ds.length + r0.length + ts.size + 2) B _ _ _ r1 rfl (by exact O2.out) rfl (by exact L1.out.later (((Below.refl _ _).alloc hB _).trans K2.out.bel)) (by omega) hB2 ?_))
    intro v3 w3 o3 k3
    have K3 : Hid (Kept5 B (w.alloc (.cells #[u0, u1, u2, .bool false] 26)) w3) := K2.out.trans k3
    have hB3 : B ≤ w3.heap.size := by have := k3.bel.size; omega
    have O3 : Hid (w3.ownsRow B 5 1 v3 (ds.length + r0.length + ts.size + 2 + r1.length) (C (ds ++ r0 ++ [34] ++ ts.data.toList ++ [34] ++ r1))) := by
      rw [Hid]; simpa [C] using o3
    clear o3 k3 K2 O2 c1
    go_wp2_with fail
    refine (appendString_any B (ds.length + r0.length + ts.size + 2 + r1.length) v3 _ id w3 O3.out (by omega) (by omega) hB3).mono ?_
    rintro e w4 ⟨v4, rfl, o4, k4⟩
    have K4 : Hid (Kept5 B (w.alloc (.cells #[u0, u1, u2, .bool false] 26)) w4) := K3.out.trans k4
    have hB4 : B ≤ w4.heap.size := by have := k4.bel.size; omega
    have O4 := hide o4
    have c2 : w4.cell? ⟨w.heap.size, 2, none⟩ = some u2 := box_cell K4.out rfl
    clear o4 k4 K3 O3
    go_wp2_with (at_builtin; go_must (refine wpList_append_bytes rfl _ _ rfl B (ds.length + r0.length + ts.size + 2 + r1.length + id.size + 2) B _ _ _ r2 rfl (by exact O4.out) rfl (by exact L2.out.later (((Below.refl _ _).alloc hB _).trans K4.out.bel)) (by omega) hB4 ?_))
    intro v5 w5 o5 k5
    have HB5 : Hid (Below B w w5) := ((Below.refl _ _).alloc hB _).trans (K4.out.trans k5).bel
    have O5 : Hid (w5.ownsRow B 5 1 v5 (ds.length + r0.length + r1.length + r2.length + id.size + ts.size + 4) (C (written ds r0 r1 r2 ts id))) := by
      rw [Hid, show ds.length + r0.length + r1.length + r2.length + id.size + ts.size + 4 = ds.length + r0.length + ts.size + 2 + r1.length + id.size + 2 + r2.length from by omega]; simpa [C, written] using o5
    clear o5 k5 K4 O4 c2
    go_wp2
    go_ret
    exact ⟨v5, rfl, O5.out, HB5.out⟩
end Go.Proofs.Ybulkbaew
