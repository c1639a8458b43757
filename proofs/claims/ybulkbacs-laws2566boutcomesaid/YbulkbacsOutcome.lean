import Derived.Test.YbulkbacsHold
namespace Go.Proofs.Ybulkbacs.lawS2566BOutcome
open Go.ChangeShapes Go.WideShapes Go.ChangeAt Go.RowKit
set_option linter.unusedVariables false

theorem info2 : (Yba.prog.info? 2).map (fun i => (i.zero, i.size, i.bytes)) = some (some (.int .i64 0), 1, 8) := by kernel_rfl

/-- The slices that came in: nil, or at an address, their numbers behind it. -/
def Came (w : World) (a : Option Addr) (n : Nat) (zs : List Int) : Prop :=
  (a = none ∧ n = 0) ∨ ∃ x, a = some x ∧ (n = 0 ∨ x.block < w.heap.size) ∧ ∀ j, j < n → w.cell? (x.add j) = some (.int .i64 (zs.getD j 0))

theorem add_block (x : Addr) (j : Nat) : (x.add j).block = x.block := by
  simp only [Addr.add]
  split <;> rfl

theorem Came.later {w w' : World} {a : Option Addr} {n : Nat} {zs : List Int} (h : Came w a n zs) (hb : Below w.heap.size w w') : Came w' a n zs := by
  rcases h with h | ⟨x, hx, hl, hc⟩
  · exact .inl h
  · refine .inr ⟨x, hx, ?_, fun j hj => ?_⟩
    · rcases hl with h | h
      · exact .inl h
      · have := hb.size; exact .inr (by omega)
    · rw [hb.cell (p := x.add j) (by rw [add_block]; rcases hl with h | h <;> omega)]
      exact hc j hj

theorem Came.has {w : World} {a : Option Addr} {n : Nat} {zs : List Int} (h : Came w a n zs) : Has w a n zs := by
  intro j hj
  rcases h with ⟨_, h⟩ | ⟨⟨b, off, spot⟩, hx, _, hc⟩
  · omega
  · have hs : spot = none := by simpa [Addr.add] using World.cell?_spot (hc 0 (by omega))
    subst hs
    exact ⟨b, off, hx, by rw [← add_plain]; exact hc j hj⟩

set_option maxHeartbeats 400000 in
set_option maxRecDepth 100000 in
theorem clone64 (a : Option Addr) (n c : Nat) (zs : List Int) (w : World) (hz : zs.length = n) (hn : n ≤ 1024) (hc : Came w a n zs) :
    Calls Yba.prog 8 #[.slice a n c] w fun e w' => ∃ a' c', e = .returned (.slice a' n c') ∧ Came w' a' n zs ∧ (∀ x, a' = some x → w.heap.size ≤ x.block ∧ x.block < w'.heap.size) ∧ Below w.heap.size w w' := by
  have q22 : ∀ (w : World) (a : Option Addr) (n c n' c' : Nat), (binOp .eql 22 (.slice a n c) (.slice none n' c')).run Yba.prog w = .ok (.bool a.isNone) w := fun w a n c n' c' => Lib.run_eql_slice_nil w _ _ a n c n' c' Yba.underlying22
  obtain ⟨i, hi, hz0, hz1, hz2⟩ := info_parts info2
  rcases hc with ⟨rfl, rfl⟩ | ⟨x, rfl, hl, hc⟩
  · go_enter Yba.func8, Yba.ntmps8
    go_wp2
    go_ret
    exact ⟨none, 0, rfl, .inl ⟨rfl, rfl⟩, (fun x hx => by cases hx), Below.refl _ _⟩
  have A : Hid ((n = 0 ∨ x.block < w.heap.size) ∧ ∀ j, j < n → w.cell? (x.add j) = some (.int .i64 (zs.getD j 0))) := ⟨hl, hc⟩
  clear hc hl
  go_enter Yba.func8, Yba.ntmps8
  go_wp2_with (at_builtin; refine wpList_append_own _ rfl _ _ 22 rfl w.heap.size 2 i (.int .i64 0) 1 8 Yba.underlying22 hi hz0 hz1 hz2 rfl (by decide) _ _ _ rfl (World.ownsRow_made w #[] 0 (Nat.le_refl _) (Nat.zero_le _) (by simp)) x n c (zs.map (Value.int .i64)) rfl ?qc1 ?qc2 ?qc3 ?qc4 ?qc5 ?qc6 ?_)
  case qc1 => simp [hz]
  case qc2 =>
    intro j u hj
    simp only [List.getElem?_map, Option.map_eq_some_iff] at hj
    obtain ⟨z, hz', rfl⟩ := hj
    have hjn : j < n := by rw [← hz]; exact (List.getElem?_eq_some_iff.1 hz').1
    have := A.out.2 j hjn
    rw [List.getD_eq_getElem?_getD, hz'] at this
    have hlt : x.block < w.heap.size := by rcases A.out.1 with h | h <;> omega
    exact (((Below.refl w.heap.size w).alloc (Nat.le_refl _) _).cell (p := x.add j) (by rw [add_block]; exact hlt)).trans this
  case qc3 => exact ints_oneCell _ _
  case qc4 => unfold maxLen; omega
  case qc5 => omega
  case qc6 => simp
  intro v' w1 hown hgrow hnil
  have hb : Below w.heap.size w w1 := ((Below.refl _ w).alloc (Nat.le_refl _) _).grown hgrow (by simp) (by intro k hk; simp [Value.ownBlock] at hk; omega)
  have hown0 : w1.ownsRow w.heap.size 2 1 v' n (zs.map (Value.int .i64)) := by simpa using hown
  obtain ⟨g, cap, rfl⟩ : ∃ g cap, v' = .slice (some ⟨g, 0, none⟩) n cap := by
    rcases hown0.2 with ⟨h, _⟩ | ⟨g, cap, cur, h, _⟩
    · exact (hnil h).elim
    · exact ⟨g, cap, h⟩
  have hlt := hown0.lt g rfl
  have hcs := owned_cells hown0
  clear hown hown0 hnil hgrow hi hz0 hz1 hz2
  have HC := hide hcs
  have HB := hide hb
  clear hcs hb
  go_wp2
  go_ret
  refine ⟨some ⟨g, 0, none⟩, cap, rfl, .inr ⟨_, rfl, .inr hlt.2, fun j hj => ?_⟩, fun x hx => by cases hx; exact ⟨hlt.1, hlt.2⟩, HB.out⟩
  rw [Addr.add_lit, Nat.zero_add]
  exact HC.out j hj

theorem kind_cases (k : Int) : 
    (∀ w, Calls Yba.prog 7 #[.int .u8 k] w fun e w' => e = .returned (.string { data := #[117, 112, 100, 97, 116, 101] }) ∧ w' = w) ∨
    (∀ w, Calls Yba.prog 7 #[.int .u8 k] w fun e w' => e = .returned (.string { data := #[102, 101, 116, 99, 104, 45, 114, 101, 113, 117, 101, 115, 116] }) ∧ w' = w) ∨
    (∀ w, Calls Yba.prog 7 #[.int .u8 k] w fun e w' => e = .returned (.string { data := #[102, 101, 116, 99, 104, 45, 97, 110, 115, 119, 101, 114] }) ∧ w' = w) ∨
    (∀ w, Calls Yba.prog 7 #[.int .u8 k] w fun e w' => e = .returned (.string { data := #[99, 108, 111, 99, 107, 45, 114, 101, 113, 117, 101, 115, 116] }) ∧ w' = w) ∨
    (∀ w, Calls Yba.prog 7 #[.int .u8 k] w fun e w' => e = .returned (.string { data := #[99, 108, 111, 99, 107] }) ∧ w' = w) ∨
    (∀ w, Calls Yba.prog 7 #[.int .u8 k] w fun e w' => e = .returned (.string { data := #[111, 116, 104, 101, 114] }) ∧ w' = w) := by
  cases h0 : (k.tmod 6 == 0) with
  | true => left; intro w; go_enter Yba.func7, Yba.ntmps7; go_wp2; go_ret; exact ⟨rfl, rfl⟩
  | false =>
  right
  cases h1 : (k.tmod 6 == 1) with
  | true => left; intro w; go_enter Yba.func7, Yba.ntmps7; go_wp2; go_ret; exact ⟨rfl, rfl⟩
  | false =>
  right
  cases h2 : (k.tmod 6 == 2) with
  | true => left; intro w; go_enter Yba.func7, Yba.ntmps7; go_wp2; go_ret; exact ⟨rfl, rfl⟩
  | false =>
  right
  cases h3 : (k.tmod 6 == 3) with
  | true => left; intro w; go_enter Yba.func7, Yba.ntmps7; go_wp2; go_ret; exact ⟨rfl, rfl⟩
  | false =>
  right
  cases h4 : (k.tmod 6 == 4) with
  | true => left; intro w; go_enter Yba.func7, Yba.ntmps7; go_wp2; go_ret; exact ⟨rfl, rfl⟩
  | false => right; intro w; go_enter Yba.func7, Yba.ntmps7; go_wp2; go_ret; exact ⟨rfl, rfl⟩

/-- A cell of a new block, the address reckoned otherwise. -/
theorem cell_at {w : World} {cs : Array Value} {t : TypeId} {b o : Nat} {v : Value} (hb : b = w.heap.size) (h : cs[o]? = some v) : (w.alloc (.cells cs t)).cell? ⟨b, o, none⟩ = some v := by
  subst hb
  have e : (w.alloc (.cells cs t)).heap[(⟨w.heap.size, o, none⟩ : Addr).block]? = some (.cells cs t) := heap_alloc_new w _
  unfold World.cell?
  rw [e]
  simpa using h
theorem frozen_at {w : World} {cs : Array Value} {t : TypeId} {b o : Nat} (hb : b = w.heap.size) : (w.alloc (.cells cs t)).frozen? ⟨b, o, none⟩ = false := by
  subst hb
  simp
theorem frozen_past {w : World} {x : Obj} {b o : Nat} (hb : b < w.heap.size) (h : w.frozen? ⟨b, o, none⟩ = false) : (w.alloc x).frozen? ⟨b, o, none⟩ = false :=
  (((Below.refl w.heap.size w).alloc (Nat.le_refl _) x).frozen (p := ⟨b, o, none⟩) hb).trans h

theorem site_same {w w' : World} {S : Nat} {app ans rd : Bool} (h : Site w S app ans rd) (e : w'.heap[S]? = w.heap[S]?) : Site w' S app ans rd :=
  ⟨(World.cell?_of_block (a := ⟨S, 0, none⟩) e).trans h.c0, (World.cell?_of_block (a := ⟨S, 1, none⟩) e).trans h.c1, (World.cell?_of_block (a := ⟨S, 2, none⟩) e).trans h.c2, (World.cell?_of_block (a := ⟨S, 3, none⟩) e).trans h.c3,
   (World.cell?_of_block (a := ⟨S, 4, none⟩) e).trans h.c4, (World.cell?_of_block (a := ⟨S, 5, none⟩) e).trans h.c5, fun o => (World.frozen?_of_block (a := ⟨S, o, none⟩) e).trans (h.fz o)⟩
theorem Came.same {w w' : World} {a : Option Addr} {n : Nat} {zs : List Int} (h : Came w a n zs) (hz : w.heap.size ≤ w'.heap.size) (e : ∀ x, a = some x → w'.heap[x.block]? = w.heap[x.block]?) : Came w' a n zs := by
  rcases h with h | ⟨x, rfl, hl, hc⟩
  · exact .inl h
  · refine .inr ⟨x, rfl, ?_, fun j hj => ?_⟩
    · rcases hl with h | h
      · exact .inl h
      · exact .inr (by omega)
    · rw [World.cell?_of_block (w := w) (a := x.add j) (by rw [add_block]; exact e x rfl)]
      exact hc j hj

/-- What the law has laid ahead of the call of hold, with a snapshot. -/
structure Laid (w1 W : World) (app ans rd : Bool) (kd : ByteArray) (a1 need clock sf : Int) (hs vs : List Int) (n9 n10 R P M : Nat) (ah aa : Option Addr) (ch ca : Nat) : Prop where
  bel : Below w1.heap.size w1 W
  site : Site W w1.heap.size app ans rd
  msg : Msg W M kd a1 (.agg #[.int .i64 7]) need
  r9 : W.cell? ⟨R, 9, none⟩ = some (.iface 25 (.pointer (some ⟨w1.heap.size, 0, none⟩)))
  r12 : W.cell? ⟨R, 12, none⟩ = some (.int .i64 clock)
  r14 : W.cell? ⟨R, 14, none⟩ = some (.pointer (some ⟨P, 0, none⟩))
  p0 : W.cell? ⟨P, 0, none⟩ = some (.int .i64 sf)
  p2 : W.cell? ⟨P, 2, none⟩ = some (.slice ah n9 ch)
  p4 : W.cell? ⟨P, 4, none⟩ = some (.slice aa n10 ca)
  hh : Came W ah n9 hs
  ha : Came W aa n10 vs
  ne : w1.heap.size < R ∧ R < P ∧ P < M ∧ (∀ x, ah = some x → w1.heap.size < x.block ∧ x.block < W.heap.size) ∧ (∀ x, aa = some x → w1.heap.size < x.block ∧ x.block < W.heap.size)

theorem Laid.point {w1 W : World} {app ans rd : Bool} {kd : ByteArray} {a1 need clock sf : Int} {hs vs : List Int} {n9 n10 R P M : Nat} {ah aa : Option Addr} {ch ca : Nat}
    (h : Laid w1 W app ans rd kd a1 need clock sf hs vs n9 n10 R P M ah aa ch ca) (h9 : n9 ≤ 1024) (h10 : n10 ≤ 1024) (w2 : World) (hg : W.grownBy w2 (some w1.heap.size)) :
    Calls Yba.prog 16 #[.pointer (some ⟨R, 0, none⟩)] w2 fun e w' => e = .returned (.int .i64 (pa vs (ph sf hs clock n9) n10)) ∧ w' = w2 := by
  have hn := h.ne
  have hR : some R ≠ some w1.heap.size := by simp; omega
  have hP : some P ≠ some w1.heap.size := by simp; omega
  refine point_some R P clock sf ah aa n9 ch n10 ca hs vs w2 (hg.cell h.r14 hR) (hg.cell h.r12 hR) (hg.cell h.p0 hP) (hg.cell h.p2 hP) (hg.cell h.p4 hP) ?_ ?_ h9 h10
  · refine (h.hh.same hg.size fun x hx => ?_).has
    have := hn.2.2.2.1 x hx
    exact hg.block _ this.2 (by simp; omega)
  · refine (h.ha.same hg.size fun x hx => ?_).has
    have := hn.2.2.2.2 x hx
    exact hg.block _ this.2 (by simp; omega)

/-- The block of another's store, and new blocks, leave a block as it was. -/
theorem heap_past {w : World} {R o : Nat} {v : Value} {x y : Obj} {k : Nat} (hk : k < w.heap.size) (hne : k ≠ R) : (((w.setCell ⟨R, o, none⟩ v).alloc x).alloc y).heap[k]? = w.heap[k]? := by
  rw [Below.heap_alloc _ _ _ (by simp; omega), Below.heap_alloc _ _ _ (by simpa using hk), Below.heap_setCell _ _ _ _ (by simpa using hne)]

theorem laid_of {w1 w2 w3 : World} {app ans rd : Bool} {kd : ByteArray} {a1 need clock sf : Int} {hs vs : List Int} {n9 n10 : Nat} {ah aa : Option Addr} {ch ca : Nat} {rc sc : Array Value}
    (e9 : rc[9]? = some (.iface 25 (.pointer (some ⟨w1.heap.size, 0, none⟩)))) (e12 : rc[12]? = some (.int .i64 clock)) (e14 : rc[14]? = some (.pointer none)) (g0 : sc[0]? = some (.int .i64 sf)) (g2 : sc[2]? = some (.slice ah n9 ch)) (g4 : sc[4]? = some (.slice aa n10 ca))
    (hh : Came w2 ah n9 hs) (hbh : ∀ x, ah = some x → w1.heap.size + 1 + 1 ≤ x.block ∧ x.block < w2.heap.size)
    (b2 : Below (w1.heap.size + 1 + 1) ((w1.alloc (.cells #[.bool app, .bool ans, .bool rd, .slice none 0 0, .slice none 0 0, .slice none 0 0] 29)).alloc (.cells rc 44)) w2)
    (ha : Came w3 aa n10 vs) (hba : ∀ x, aa = some x → w2.heap.size ≤ x.block ∧ x.block < w3.heap.size) (b3 : Below w2.heap.size w2 w3) :
    Laid w1 (((w3.setCell ⟨w1.heap.size + 1, 14, none⟩ (.pointer (some ⟨w3.heap.size, 0, none⟩))).alloc (.cells sc 50)).alloc (.cells #[.string kd, .int .i64 a1, .iface 53 (.agg #[.int .i64 7]), .int .i64 0, .int .i64 need] 57))
      app ans rd kd a1 need clock sf hs vs n9 n10 (w1.heap.size + 1) w3.heap.size (w3.heap.size + 1) ah aa ch ca := by
  have s2 := b2.size
  have s3 := b3.size
  simp at s2
  have b13 : Below (w1.heap.size + 1 + 1) ((w1.alloc (.cells #[.bool app, .bool ans, .bool rd, .slice none 0 0, .slice none 0 0, .slice none 0 0] 29)).alloc (.cells rc 44)) w3 := b2.trans (b3.mono (by omega))
  have c3 : ∀ o v, rc[o]? = some v → w3.cell? ⟨w1.heap.size + 1, o, none⟩ = some v := fun o v h =>
    (b13.cell (p := ⟨w1.heap.size + 1, o, none⟩) (by simp)).trans (cell_at (by simp) h)
  have site3 : Site w3 w1.heap.size app ans rd := by
    have h0 : Site ((w1.alloc (.cells #[.bool app, .bool ans, .bool rd, .slice none 0 0, .slice none 0 0, .slice none 0 0] 29)).alloc (.cells rc 44)) w1.heap.size app ans rd :=
      ⟨cell_alloc_old (cell_at rfl rfl), cell_alloc_old (cell_at rfl rfl), cell_alloc_old (cell_at rfl rfl), cell_alloc_old (cell_at rfl rfl), cell_alloc_old (cell_at rfl rfl), cell_alloc_old (cell_at rfl rfl), fun o => frozen_past (by simp) (frozen_at rfl)⟩
    exact site_same h0 (b13.block _ (by omega))
  refine ⟨?_, site_same site3 (heap_past (by omega) (by omega)), ⟨cell_at (by simp) rfl, cell_at (by simp) rfl, cell_at (by simp) rfl, cell_at (by simp) rfl⟩, ?_, ?_, ?_,
    cell_alloc_old (cell_at (by simp) g0), cell_alloc_old (cell_at (by simp) g2), cell_alloc_old (cell_at (by simp) g4), ?_, ?_, ⟨by omega, by omega, by omega, ?_, ?_⟩⟩
  · have hb : Below w1.heap.size w1 w3 := (((Below.refl w1.heap.size w1).alloc (Nat.le_refl _) _).alloc (by simp) _).trans (b13.mono (by omega))
    exact ((hb.setCell (p := ⟨w1.heap.size + 1, 14, none⟩) (by simp) _).alloc (by simp; omega) _).alloc (by simp; omega) _
  · exact cell_alloc_old (cell_alloc_old (past_set (by decide) (c3 _ _ e9)))
  · exact cell_alloc_old (cell_alloc_old (past_set (by decide) (c3 _ _ e12)))
  · exact cell_alloc_old (cell_alloc_old (World.cell?_setCell_same _ _ _ (c3 _ _ e14)))
  · refine (hh.same s3 fun x hx => b3.block _ (hbh x hx).2).same (by simp; omega) fun x hx => ?_
    have := hbh x hx
    exact heap_past (by omega) (by omega)
  · refine ha.same (by simp; omega) fun x hx => ?_
    have := hba x hx
    exact heap_past (by omega) (by omega)
  · intro x hx
    have := hbh x hx
    simp
    omega
  · intro x hx
    have := hba x hx
    simp
    omega
end Go.Proofs.Ybulkbacs.lawS2566BOutcome
