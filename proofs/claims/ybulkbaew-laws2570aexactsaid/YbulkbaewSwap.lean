import Derived.Test.YbulkbaewAppend
namespace Go.Proofs.Ybulkbaew
open Go.ChangeShapes Go.WideShapes Go.ChangeAt Go.RowKit
set_option linter.unusedVariables false

theorem conv {D : Nat} {w : World} {u : Value} {l : List UInt8} (h : Lies D w u l) : (convert 22 9 u).run Yba.prog w = .ok (.string ⟨l.toArray⟩) w := by
  rcases h with ⟨rfl, rfl⟩ | ⟨x, cap, rfl, _, hc⟩
  · exact run_convert_bytes_nil w 22 5 Yba.underlying22 Yba.underlying5 0 0 9 Yba.underlying9
  · refine run_convert_bytes_back w 22 9 5 x cap l Yba.underlying22 Yba.underlying5 Yba.underlying9 fun j hj => hc j _ ?_
    simp [C, hj]
theorem Lies.isSlice {D : Nat} {w : World} {u : Value} {l : List UInt8} (h : Lies D w u l) : ∃ a c, u = .slice a l.length c := by
  rcases h with ⟨rfl, rfl⟩ | ⟨x, cap, rfl, _, hc⟩
  · exact ⟨_, _, rfl⟩
  · exact ⟨_, _, rfl⟩

theorem equal_same (D D' : Nat) (u v : Value) (l : List UInt8) (w : World) (hu : Lies D w u l) (hv : Lies D' w v l) :
    Calls Yba.prog 10 #[u, v] w fun e w' => e = .returned (.bool true) ∧ w' = w := by
  have c1 := conv hu
  have c2 := conv hv
  clear hu hv
  go_enter Yba.func10, Yba.ntmps10
  go_wp2
  go_ret
  exact ⟨rfl, rfl⟩

theorem prefix_yes (g n cap D : Nat) (u : Value) (p r : List UInt8) (w : World) (hn : n = (p ++ r).length) (hn' : n ≤ 100000) (hc : n ≤ cap) (hcap : cap ≤ maxLen) (hv : ∀ j x, (C (p ++ r))[j]? = some x → w.cell? ((⟨g, 0, none⟩ : Addr).add j) = some x) (hu : Lies D w u p) :
    Calls Yba.prog 11 #[.slice (some ⟨g, 0, none⟩) n cap, u] w fun e w' => e = .returned (.bool true) ∧ w' = w := by
  obtain ⟨a, c, rfl⟩ := hu.isSlice
  have H1 : Hid (Lies (w.heap.size + g + 1) w (.slice (some ⟨g, 0, none⟩) p.length cap) p) := .inr ⟨_, cap, rfl, .inr (by simp; omega), fun j x hj => hv j x (by
    rw [C_append, List.getElem?_append_left]
    · exact hj
    · exact (List.getElem?_eq_some_iff.1 hj).1)⟩
  have H2 := hide hu
  have hpn : p.length ≤ n := by rw [hn]; simp
  have e1 : decide ((p.length : Int) ≤ (n : Int)) = true := by simp; omega
  have hpc : (p.length : Int) ≤ (cap : Int) := by omega
  unfold maxLen at hcap
  clear hv hu hn
  go_enter Yba.func11, Yba.ntmps11
  go_wp2_with (go_at_call 10; refine (equal_same _ _ _ _ p _ (by exact H1.out) (by exact H2.out)).mono ?_; rintro e w' ⟨rfl, rfl⟩)
  go_ret
  exact ⟨rfl, rfl⟩

theorem Lies.next {w w' : World} {v : Value} {l : List UInt8} (h : Lies w.heap.size w v l) (hb : Below w.heap.size w w') : Lies w'.heap.size w' v l := (h.later hb).mono hb.size
/-- The arguments, as they read in the world W. -/
structure St (w W : World) (v0 v1 v2 v3 : Value) (ds r0 r1 r2 : List UInt8) : Prop where
  bel : Below w.heap.size w W
  a0 : Lies W.heap.size W v0 ds
  a1 : Lies W.heap.size W v1 r0
  a2 : Lies W.heap.size W v2 r1
  a3 : Lies W.heap.size W v3 r2
theorem St.next {w W W' : World} {v0 v1 v2 v3 : Value} {ds r0 r1 r2 : List UInt8} (h : St w W v0 v1 v2 v3 ds r0 r1 r2) (hb : Below W.heap.size W W') : St w W' v0 v1 v2 v3 ds r0 r1 r2 :=
  ⟨h.bel.trans (hb.mono h.bel.size), h.a0.next hb, h.a1.next hb, h.a2.next hb, h.a3.next hb⟩
/-- A template's rows and its box. -/
structure Tpl (W : World) (T : Nat) (x0 x1 x2 : Value) (idf : Bool) (r0 r1 r2 : List UInt8) : Prop where
  l0 : Lies W.heap.size W x0 r0
  l1 : Lies W.heap.size W x1 r1
  l2 : Lies W.heap.size W x2 r2
  lt : T < W.heap.size
  c0 : W.cell? ⟨T, 0, none⟩ = some x0
  c1 : W.cell? ⟨T, 1, none⟩ = some x1
  c2 : W.cell? ⟨T, 2, none⟩ = some x2
  c3 : W.cell? ⟨T, 3, none⟩ = some (.bool idf)
theorem Tpl.next {W W' : World} {T : Nat} {x0 x1 x2 : Value} {idf : Bool} {r0 r1 r2 : List UInt8} (h : Tpl W T x0 x1 x2 idf r0 r1 r2) (hb : Below W.heap.size W W') : Tpl W' T x0 x1 x2 idf r0 r1 r2 :=
  ⟨h.l0.next hb, h.l1.next hb, h.l2.next hb, Nat.lt_of_lt_of_le h.lt hb.size, (hb.cell (p := ⟨T, 0, none⟩) h.lt).trans h.c0, (hb.cell (p := ⟨T, 1, none⟩) h.lt).trans h.c1, (hb.cell (p := ⟨T, 2, none⟩) h.lt).trans h.c2, (hb.cell (p := ⟨T, 3, none⟩) h.lt).trans h.c3⟩
theorem cell_at {w : World} {cs : Array Value} {t : TypeId} {b o : Nat} {v : Value} (hb : b = w.heap.size) (h : cs[o]? = some v) : (w.alloc (.cells cs t)).cell? ⟨b, o, none⟩ = some v := by
  subst hb
  have e : (w.alloc (.cells cs t)).heap[(⟨w.heap.size, o, none⟩ : Addr).block]? = some (.cells cs t) := heap_alloc_new w _
  unfold World.cell?
  rw [e]
  simpa using h
/-- .. when it is laid. -/
theorem Tpl.mk' {W : World} {x0 x1 x2 : Value} {idf : Bool} {r0 r1 r2 : List UInt8} (h0 : Lies W.heap.size W x0 r0) (h1 : Lies W.heap.size W x1 r1) (h2 : Lies W.heap.size W x2 r2) :
    Tpl (W.alloc (.cells #[x0, x1, x2, .bool idf] 26)) W.heap.size x0 x1 x2 idf r0 r1 r2 :=
  have hb : Below W.heap.size W (W.alloc (.cells #[x0, x1, x2, .bool idf] 26)) := (Below.refl _ _).alloc (Nat.le_refl _) _
  ⟨h0.next hb, h1.next hb, h2.next hb, by simp, cell_at rfl rfl, cell_at rfl rfl, cell_at rfl rfl, cell_at rfl rfl⟩
theorem bel_alloc (w : World) (o : Obj) : Below w.heap.size w (w.alloc o) := (Below.refl _ _).alloc (Nat.le_refl _) _
theorem bel_undrew {B : Nat} {w w' : World} (h : Below B w.drew w') : Below B w w' := ⟨h.os, h.tape, h.output, h.size, h.block⟩
/-- A row of the call's own that is not empty. -/
theorem owns_some {w : World} {base n : Nat} {v : Value} {xs : List Value} (h : w.ownsRow base 5 1 v n xs) (hn : 0 < n) : ∃ g cap, v = .slice (some ⟨g, 0, none⟩) n cap ∧ n ≤ cap ∧ cap ≤ maxLen := by
  rcases h.2 with ⟨rfl, rfl⟩ | ⟨g, cap, cur, rfl, _, _, h1, h2, _⟩
  · omega
  · exact ⟨g, cap, rfl, h1, h2⟩
theorem bcell {W w1 : World} (hb : Below W.heap.size W w1) : ∀ b o, b < W.heap.size → w1.cell? ⟨b, o, none⟩ = W.cell? ⟨b, o, none⟩ :=
  fun b o h => hb.cell (p := ⟨b, o, none⟩) h

set_option maxHeartbeats 2000000 in
set_option maxRecDepth 100000 in
theorem core_swap (b0 b1 b2 b3 : Option Addr) (c0 c1 c2 c3 : Nat) (ds r0 r1 r2 : List UInt8) (idf : Bool) (id ts : ByteArray) (w : World)
    (hst : St w w (.slice b0 ds.length c0) (.slice b1 r0.length c1) (.slice b2 r1.length c2) (.slice b3 r2.length c3) ds r0 r1 r2)
    (ld : ds.length ≤ 4096) (l0 : r0.length ≤ 4096) (l1 : r1.length ≤ 4096) (l2 : r2.length ≤ 4096) (li : id.size ≤ 4096) (lt : ts.size ≤ 4096) :
    Calls Yba.prog 4 #[.slice b0 ds.length c0, .slice b1 r0.length c1, .slice b2 r1.length c2, .slice b3 r2.length c3, .bool idf, .string id, .string ts] w fun e w' => e = .returned (.bool true) ∧ Below w.heap.size w w' := by
  have d0 : decide ((4096 : Int) < (ds.length : Int)) = false := by simp; omega
  have d1 : decide ((4096 : Int) < (r0.length : Int)) = false := by simp; omega
  have d2 : decide ((4096 : Int) < (r1.length : Int)) = false := by simp; omega
  have d3 : decide ((4096 : Int) < (r2.length : Int)) = false := by simp; omega
  have d4 : decide ((4096 : Int) < (id.size : Int)) = false := by simp; omega
  have d5 : decide ((4096 : Int) < (ts.size : Int)) = false := by simp; omega
  have HS := hide hst
  clear hst
  go_enter Yba.func4, Yba.ntmps4
  go_wp2_with fail
  refine (copy_any _ r0 w (by omega) HS.out.a1).mono ?_
  rintro e w1 ⟨x0, rfl, o0, bb⟩
  obtain ⟨p0, k0, rfl⟩ := (lies_of_owns o0).isSlice
  have S1 := hide (HS.out.next bb)
  have X0 := hide (lies_of_owns o0)
  clear o0 bb HS
  go_wp2_with fail
  refine (copy_any _ r1 w1 (by omega) S1.out.a2).mono ?_
  rintro e w2 ⟨x1, rfl, o1, bb⟩
  obtain ⟨p1, k1, rfl⟩ := (lies_of_owns o1).isSlice
  have S2 := hide (S1.out.next bb)
  have X0' := hide (X0.out.next bb)
  have X1 := hide (lies_of_owns o1)
  clear o1 bb S1 X0
  go_wp2_with fail
  refine (copy_any _ r2 w2 (by omega) S2.out.a3).mono ?_
  rintro e w3 ⟨x2, rfl, o2, bb⟩
  obtain ⟨p2, k2, rfl⟩ := (lies_of_owns o2).isSlice
  have S3 := hide (S2.out.next bb)
  have T1 := hide (Tpl.mk' (idf := idf) (X0'.out.next bb) (X1.out.next bb) (lies_of_owns o2))
  have S4 := hide (S3.out.next (bel_alloc w3 (.cells #[.slice p0 r0.length k0, .slice p1 r1.length k1, .slice p2 r2.length k2, .bool idf] 26)))
  clear o2 bb S2 X0' X1 S3
  go_wp2_with fail
  refine (copy_any _ r0 _ (by omega) S4.out.a1).mono ?_
  rintro e w4 ⟨x0, rfl, o0, bb⟩
  obtain ⟨p0', k0', rfl⟩ := (lies_of_owns o0).isSlice
  have S5 := hide (S4.out.next bb)
  have T2 := hide (T1.out.next bb)
  have X0 := hide (lies_of_owns o0)
  clear o0 bb S4 T1
  go_wp2_with fail
  refine (copy_any _ r1 w4 (by omega) S5.out.a2).mono ?_
  rintro e w5 ⟨x1, rfl, o1, bb⟩
  obtain ⟨p1', k1', rfl⟩ := (lies_of_owns o1).isSlice
  have S6 := hide (S5.out.next bb)
  have T3 := hide (T2.out.next bb)
  have X0' := hide (X0.out.next bb)
  have X1 := hide (lies_of_owns o1)
  clear o1 bb S5 X0 T2
  go_wp2_with fail
  refine (copy_any _ r2 w5 (by omega) S6.out.a3).mono ?_
  rintro e w6 ⟨x2, rfl, o2, bb⟩
  obtain ⟨p2', k2', rfl⟩ := (lies_of_owns o2).isSlice
  have U1 := hide (Tpl.mk' (idf := !idf) (X0'.out.next bb) (X1.out.next bb) (lies_of_owns o2))
  have T4 := hide ((T3.out.next bb).next (bel_alloc w6 (.cells #[.slice p0' r0.length k0', .slice p1' r1.length k1', .slice p2' r2.length k2', .bool (!idf)] 26)))
  have S7 := hide ((S6.out.next bb).next (bel_alloc w6 (.cells #[.slice p0' r0.length k0', .slice p1' r1.length k1', .slice p2' r2.length k2', .bool (!idf)] 26)))
  clear o2 bb S6 X0' X1 T3
  go_wp2_with fail
  generalize hW : World.alloc w6 _ = W at *
  have hTlt := T4.out.lt
  have t0 := T4.out.c0
  have t1 := T4.out.c1
  have t2 := T4.out.c2
  have t3 := T4.out.c3
  clear hW
  go_region_held3 (fun w' => w'.cell? ⟨w3.heap.size, 0, none⟩ = some (.slice p0 r0.length k0) ∧ w'.cell? ⟨w3.heap.size, 1, none⟩ = some (.slice p1 r1.length k1) ∧ w'.cell? ⟨w3.heap.size, 2, none⟩ = some (.slice p2 r2.length k2) ∧ w'.cell? ⟨w3.heap.size, 3, none⟩ = some (.bool idf))
    (first | assumption | (simp [go_sem, *]; done))
    (first
      | (go_at_call 7; refine (copy_any _ ds _ (by omega) (by exact S7.out.a0)).mono ?_; rintro e w7 ⟨x7, rfl, o7, bb7⟩; have f7 : (w7.cell? ⟨w3.heap.size, 0, none⟩ = some (.slice p0 r0.length k0) ∧ w7.cell? ⟨w3.heap.size, 1, none⟩ = some (.slice p1 r1.length k1) ∧ w7.cell? ⟨w3.heap.size, 2, none⟩ = some (.slice p2 r2.length k2) ∧ w7.cell? ⟨w3.heap.size, 3, none⟩ = some (.bool idf)) := ⟨(bb7.cell (p := ⟨w3.heap.size, 0, none⟩) hTlt).trans t0, (bb7.cell (p := ⟨w3.heap.size, 1, none⟩) hTlt).trans t1, (bb7.cell (p := ⟨w3.heap.size, 2, none⟩) hTlt).trans t2, (bb7.cell (p := ⟨w3.heap.size, 3, none⟩) hTlt).trans t3⟩)
      | (go_at_call 8; refine (append_any W.heap.size _ _ _ _ ds r0 r1 r2 idf id ts _ (by exact o7) (by exact T4.out.l0.later (bel_undrew bb7)) (by exact T4.out.l1.later (bel_undrew bb7)) (by exact T4.out.l2.later (bel_undrew bb7)) (by exact bb7.size) (by omega) (by omega) (by omega) (by omega) li lt).mono ?_; rintro e w8 ⟨x8, rfl, o8, bb8⟩; have f8 : (w8.cell? ⟨w3.heap.size, 0, none⟩ = some (.slice p0 r0.length k0) ∧ w8.cell? ⟨w3.heap.size, 1, none⟩ = some (.slice p1 r1.length k1) ∧ w8.cell? ⟨w3.heap.size, 2, none⟩ = some (.slice p2 r2.length k2) ∧ w8.cell? ⟨w3.heap.size, 3, none⟩ = some (.bool idf)) := ⟨(bb8.cell (p := ⟨w3.heap.size, 0, none⟩) hTlt).trans f7.1, (bb8.cell (p := ⟨w3.heap.size, 1, none⟩) hTlt).trans f7.2.1, (bb8.cell (p := ⟨w3.heap.size, 2, none⟩) hTlt).trans f7.2.2.1, (bb8.cell (p := ⟨w3.heap.size, 3, none⟩) hTlt).trans f7.2.2.2⟩))
  have b8 : Below W.heap.size W w8 := (bel_undrew bb7).trans bb8
  have S8 := hide (S7.out.next b8)
  have U2 := hide (U1.out.next b8)
  have O8 := hide o8
  clear o7 bb7 f7 o8 bb8 f8 b8 S7 U1 T4 t0 t1 t2 t3 hTlt
  obtain ⟨g, cap, rfl, hcap1, hcap2⟩ := owns_some O8.out (by omega)
  have hTlt := U2.out.lt
  have t0 := U2.out.c0
  have t1 := U2.out.c1
  have t2 := U2.out.c2
  have t3 := U2.out.c3
  go_wp2
  go_region_held3 (fun w' => (w'.cell? ⟨w6.heap.size, 0, none⟩ = some (.slice p0' r0.length k0') ∧ w'.cell? ⟨w6.heap.size, 1, none⟩ = some (.slice p1' r1.length k1') ∧ w'.cell? ⟨w6.heap.size, 2, none⟩ = some (.slice p2' r2.length k2') ∧ w'.cell? ⟨w6.heap.size, 3, none⟩ = some (.bool (!idf))))
    (first | assumption | (simp [go_sem, *]; done))
    (first
      | (go_at_call 7; refine (copy_any _ ds _ (by omega) (by exact S8.out.a0)).mono ?_; rintro e w9 ⟨x9, rfl, o9, bb9⟩; have f9 : (w9.cell? ⟨w6.heap.size, 0, none⟩ = some (.slice p0' r0.length k0') ∧ w9.cell? ⟨w6.heap.size, 1, none⟩ = some (.slice p1' r1.length k1') ∧ w9.cell? ⟨w6.heap.size, 2, none⟩ = some (.slice p2' r2.length k2') ∧ w9.cell? ⟨w6.heap.size, 3, none⟩ = some (.bool (!idf))) := ⟨(bb9.cell (p := ⟨w6.heap.size, 0, none⟩) hTlt).trans t0, (bb9.cell (p := ⟨w6.heap.size, 1, none⟩) hTlt).trans t1, (bb9.cell (p := ⟨w6.heap.size, 2, none⟩) hTlt).trans t2, (bb9.cell (p := ⟨w6.heap.size, 3, none⟩) hTlt).trans t3⟩)
      | (go_at_call 8; refine (append_any w8.heap.size _ _ _ _ ds r0 r1 r2 (!idf) ts id _ (by exact o9) (by exact U2.out.l0.later (bel_undrew bb9)) (by exact U2.out.l1.later (bel_undrew bb9)) (by exact U2.out.l2.later (bel_undrew bb9)) (by exact bb9.size) (by omega) (by omega) (by omega) (by omega) lt li).mono ?_; rintro e wA ⟨xA, rfl, oA, bbA⟩; have fA : (wA.cell? ⟨w6.heap.size, 0, none⟩ = some (.slice p0' r0.length k0') ∧ wA.cell? ⟨w6.heap.size, 1, none⟩ = some (.slice p1' r1.length k1') ∧ wA.cell? ⟨w6.heap.size, 2, none⟩ = some (.slice p2' r2.length k2') ∧ wA.cell? ⟨w6.heap.size, 3, none⟩ = some (.bool (!idf))) := ⟨(bbA.cell (p := ⟨w6.heap.size, 0, none⟩) hTlt).trans f9.1, (bbA.cell (p := ⟨w6.heap.size, 1, none⟩) hTlt).trans f9.2.1, (bbA.cell (p := ⟨w6.heap.size, 2, none⟩) hTlt).trans f9.2.2.1, (bbA.cell (p := ⟨w6.heap.size, 3, none⟩) hTlt).trans f9.2.2.2⟩))
  have bA : Below w8.heap.size w8 wA := (bel_undrew bb9).trans bbA
  have SA := hide (S8.out.next bA)
  have LA := hide ((lies_of_owns O8.out).next bA)
  have MA : Hid (Lies wA.heap.size wA xA (written ds r0 r1 r2 (if idf then id else ts) (if idf then ts else id))) := by
    have h := lies_of_owns oA
    cases idf <;> exact h
  have HN := hide hcap1
  clear o9 bb9 f9 oA bbA fA bA S8 U2 O8 t0 t1 t2 t3 hTlt
  obtain ⟨aA, cA, rfl⟩ := MA.out.isSlice
  have hpre : written ds r0 r1 r2 (if idf then id else ts) (if idf then ts else id) = ds ++ (r0 ++ [34] ++ (if idf then id else ts).data.toList ++ [34] ++ r1 ++ [34] ++ (if idf then ts else id).data.toList ++ [34] ++ r2) := by simp [written]
  have hlen : ds.length + r0.length + r1.length + r2.length + id.size + ts.size + 4 = (written ds r0 r1 r2 (if idf then id else ts) (if idf then ts else id)).length := by
    obtain ⟨x, cx, h1, _, _⟩ := LA.out.resolve_left (by rintro ⟨h, _⟩; cases h)
    injection h1
  have HP := hide hpre
  generalize r0 ++ [34] ++ (if idf then id else ts).data.toList ++ [34] ++ r1 ++ [34] ++ (if idf then ts else id).data.toList ++ [34] ++ r2 = rr at *
  generalize written ds r0 r1 r2 (if idf then id else ts) (if idf then ts else id) = L at *
  have HLEN := hide hlen
  have hcell : Hid (∀ j x, (C (ds ++ rr))[j]? = some x → wA.cell? ((⟨g, 0, none⟩ : Addr).add j) = some x) := by
    obtain ⟨x, cx, h1, _, h2⟩ := LA.out.resolve_left (by rintro ⟨h, _⟩; cases h)
    injection h1 with h3
    injection h3 with h3
    subst h3
    rw [HP.out] at h2
    exact h2
  have eN : (((ds.length : Int) + r0.length + r1.length + r2.length + id.size + ts.size + 4) == (ds.length : Int) + r0.length + r1.length + r2.length + id.size + ts.size + 4) = true := by simp
  clear hlen hpre
  go_wp2_with (first
    | (go_at_call 10; refine (equal_same _ _ _ _ L _ (by exact LA.out) (by exact MA.out)).mono ?_; rintro e wB ⟨rfl, rfl⟩)
    | (go_at_call 11; refine (prefix_yes g _ cap _ _ ds rr _ (by rw [HLEN.out, HP.out]) (by omega) HN.out hcap2 (by exact hcell.out) (by exact SA.out.a0)).mono ?_; rintro e wC ⟨rfl, rfl⟩))
  go_ret
  exact ⟨rfl, SA.out.bel⟩
end Go.Proofs.Ybulkbaew
