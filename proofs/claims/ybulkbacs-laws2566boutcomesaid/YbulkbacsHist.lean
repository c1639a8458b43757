import Derived.Test.YbulkbacsProg
import Derived.WalkKit
import Derived.ProofKit
import Derived.OpenShut
import Derived.Below
import Derived.Handy
import Derived.Deep.QuietTactic
import Derived.BigQuiet
import Derived.Lib.SliceRun
import Derived.WalkSmall
namespace Go.Proofs.Ybulkbacs
open Go.ChangeShapes Go.WideShapes Go.ChangeAt Go.RowKit

set_option maxHeartbeats 400000 in
theorem keep_neg (b gf m cf : Nat) (old : Int) (r v : Int) (w : World)
    (h14 : w.cell? ⟨b, 14, none⟩ = some (.slice (some ⟨gf, 0, none⟩) m cf))
    (hr0 : 0 ≤ r) (hr : r < m) 
    (hold : w.cell? ⟨gf, r.toNat, none⟩ = some (.int .i32 old)) (hneg : old < 0) (hfz : w.frozen? ⟨gf, r.toNat, none⟩ = false) :
    Calls Yba.prog 12 #[.pointer (some ⟨b, 0, none⟩), .int .i32 r, .int .i32 v] w fun e w' => e = .returned (.tuple #[]) ∧ ∃ q, w' = (w.setCell ⟨gf, r.toNat, none⟩ (.int .i32 v)).drewN q := by
  go_enter Yba.func12, Yba.ntmps12
  go_wp2
  go_quiet (fail)
  go_wp2
  go_returns

  exact ⟨rfl, _, rfl⟩

set_option maxHeartbeats 400000 in
theorem keep_low (b gs gf n cs m cf : Nat) (old : Int) (r v a c : Int) (w : World)
    (h14 : w.cell? ⟨b, 14, none⟩ = some (.slice (some ⟨gf, 0, none⟩) m cf))
    (h6 : w.cell? ⟨b, 6, none⟩ = some (.slice (some ⟨gs, 0, none⟩) n cs))
    (hr0 : 0 ≤ r) (hr : r < m) (hv0 : 0 ≤ v) (hv : v < n) (ho0 : 0 ≤ old) (ho : old < n)
    (hold : w.cell? ⟨gf, r.toNat, none⟩ = some (.int .i32 old)) (hfz : w.frozen? ⟨gf, r.toNat, none⟩ = false)
    (ha : w.cell? ⟨gs, v.toNat, none⟩ = some (.int .i32 a)) (hc : w.cell? ⟨gs, old.toNat, none⟩ = some (.int .i32 c)) (hac : a < c) :
    Calls Yba.prog 12 #[.pointer (some ⟨b, 0, none⟩), .int .i32 r, .int .i32 v] w fun e w' => e = .returned (.tuple #[]) ∧ ∃ q, w' = (w.setCell ⟨gf, r.toNat, none⟩ (.int .i32 v)).drewN q := by
  have hd : decide (old < 0) = false := by simpa using ho0
  go_enter Yba.func12, Yba.ntmps12
  go_wp2
  go_quiet (fail)
  go_wp2
  go_returns
  exact ⟨rfl, _, rfl⟩

set_option maxHeartbeats 400000 in
theorem keep_not (b gs gf n cs m cf : Nat) (old : Int) (r v a c : Int) (w : World)
    (h14 : w.cell? ⟨b, 14, none⟩ = some (.slice (some ⟨gf, 0, none⟩) m cf))
    (h6 : w.cell? ⟨b, 6, none⟩ = some (.slice (some ⟨gs, 0, none⟩) n cs))
    (hr0 : 0 ≤ r) (hr : r < m) (hv0 : 0 ≤ v) (hv : v < n) (ho0 : 0 ≤ old) (ho : old < n)
    (hold : w.cell? ⟨gf, r.toNat, none⟩ = some (.int .i32 old))
    (ha : w.cell? ⟨gs, v.toNat, none⟩ = some (.int .i32 a)) (hc : w.cell? ⟨gs, old.toNat, none⟩ = some (.int .i32 c)) (hac : ¬ a < c) :
    Calls Yba.prog 12 #[.pointer (some ⟨b, 0, none⟩), .int .i32 r, .int .i32 v] w fun e w' => e = .returned (.tuple #[]) ∧ ∃ q, w' = w.drewN q := by
  have hd : decide (old < 0) = false := by simpa using ho0
  have hd2 : decide (a < c) = false := by simpa using hac
  go_enter Yba.func12, Yba.ntmps12
  go_wp2
  go_quiet (fail)
  go_wp2
  go_returns
  exact ⟨rfl, _, rfl⟩

theorem hide {p : Prop} (h : p) : Hid p := h
theorem cell_lt {w : World} {b o : Nat} {v : Value} (h : w.cell? ⟨b, o, none⟩ = some v) : b < w.heap.size := by
  refine Classical.byContradiction fun hb => ?_
  have hn : w.heap[b]? = none := by simp; omega
  simp [World.cell?, hn] at h
theorem cell_alloc_old {w : World} {b o : Nat} {v : Value} {x : Obj} (h : w.cell? ⟨b, o, none⟩ = some v) : (w.alloc x).cell? ⟨b, o, none⟩ = some v :=
  (((Below.refl w.heap.size w).alloc (Nat.le_refl _) x).cell (p := ⟨b, o, none⟩) (cell_lt h)).trans h

theorem info21 : (Yba.prog.info? 21).map (fun i => (i.zero, i.size, i.bytes)) = some (some (.int .i32 0), 1, 4) := by kernel_rfl

/-- What a slice of the call's own leads to. -/
theorem owned_cells {w : World} {base e g n cap : Nat} {k : IntKind} {zs : List Int} (h : w.ownsRow base e 1 (.slice (some ⟨g, 0, none⟩) n cap) n (zs.map (Value.int k))) :
    ∀ j, j < n → w.cell? ⟨g, j, none⟩ = some (.int k (zs.getD j 0)) := by
  intro j hj
  have hl := h.1
  rw [h.cellAt j (by omega)]
  simp at hl
  simp [hl, hj]

set_option maxHeartbeats 400000 in
set_option maxRecDepth 100000 in
theorem clone32 (b off n c : Nat) (zs : List Int) (w : World) (hz : zs.length = n) (hn : n ≤ 1024)
    (hc : ∀ j, j < n → w.cell? ⟨b, off + j, none⟩ = some (.int .i32 (zs.getD j 0))) :
    Calls Yba.prog 11 #[.slice (some ⟨b, off, none⟩) n c] w fun e w' => ∃ g cap, e = .returned (.slice (some ⟨g, 0, none⟩) n cap) ∧ w.heap.size ≤ g ∧ g < w'.heap.size ∧
      (∀ j, j < n → w'.cell? ⟨g, j, none⟩ = some (.int .i32 (zs.getD j 0))) ∧ (∀ j, w'.frozen? ⟨g, j, none⟩ = false) ∧ Below w.heap.size w w' := by
  obtain ⟨i, hi, hz0, hz1, hz2⟩ := info_parts info21
  have A : Hid (∀ j, j < n → w.cell? ⟨b, off + j, none⟩ = some (.int .i32 (zs.getD j 0))) := hc
  clear hc
  have q65 : ∀ (w : World) (a : Option Addr) (n c n' c' : Nat), (binOp .eql 65 (.slice a n c) (.slice none n' c')).run Yba.prog w = .ok (.bool a.isNone) w := fun w a n c n' c' => Lib.run_eql_slice_nil w _ _ a n c n' c' Yba.underlying65
  go_enter Yba.func11, Yba.ntmps11
  go_wp2_with (at_builtin; refine wpList_append_own _ rfl _ _ 65 rfl w.heap.size 21 i (.int .i32 0) 1 4 Yba.underlying65 hi hz0 hz1 hz2 rfl (by decide) _ _ _ rfl (World.ownsRow_made w #[] 0 (Nat.le_refl _) (Nat.zero_le _) (by simp)) ⟨b, off, none⟩ n c (zs.map (Value.int .i32)) rfl ?qc1 ?qc2 ?qc3 ?qc4 ?qc5 ?qc6 ?_)
  case qc1 => simp [hz]
  case qc2 =>
    intro j u hj
    simp only [List.getElem?_map, Option.map_eq_some_iff] at hj
    obtain ⟨z, hz', rfl⟩ := hj
    have hjn : j < n := by rw [← hz]; exact (List.getElem?_eq_some_iff.1 hz').1
    have := A.out j hjn
    rw [List.getD_eq_getElem?_getD, hz'] at this
    rw [Addr.add_lit]
    exact cell_alloc_old this
  case qc3 => exact ints_oneCell _ _
  case qc4 => unfold maxLen; omega
  case qc5 => omega
  case qc6 => simp
  intro v' w1 hown hgrow hnil
  have hb : Below w.heap.size w w1 := ((Below.refl _ w).alloc (Nat.le_refl _) _).grown hgrow (by simp) (by intro k hk; simp [Value.ownBlock] at hk; omega)
  have hown0 : w1.ownsRow w.heap.size 21 1 v' n (zs.map (Value.int .i32)) := by simpa using hown
  obtain ⟨g, cap, rfl⟩ : ∃ g cap, v' = .slice (some ⟨g, 0, none⟩) n cap := by
    rcases hown0.2 with ⟨h, _⟩ | ⟨g, cap, cur, h, _⟩
    · exact (hnil h).elim
    · exact ⟨g, cap, h⟩
  have hlt := hown0.lt g rfl
  have hcs := owned_cells hown0
  have hfz := fun j => hown0.frozenAt j
  clear hown hown0 hnil hgrow hi hz0 hz1 hz2
  have HC := hide hcs
  have HF := hide hfz
  have HB := hide hb
  clear hcs hfz hb
  go_wp2
  go_ret
  exact ⟨g, cap, rfl, hlt.1, hlt.2, HC.out, HF.out, HB.out⟩

/-! ### keepFault, one contract for every way through it -/
/-- 'w'' is 'w' with the one cell a holding v (and draws). -/
structure Sets (w w' : World) (a : Addr) (v : Value) : Prop where
  self : w'.cell? a = some v
  other : ∀ x, x ≠ a → w'.cell? x = w.cell? x
  frozen : ∀ x, w'.frozen? x = w.frozen? x
  size : w'.heap.size = w.heap.size
  below : ∀ B, B ≤ a.block → Below B w w'

theorem sets_set {w : World} {a : Addr} {u : Value} (h : w.cell? a = some u) (v : Value) (q : Nat) : Sets w ((w.setCell a v).drewN q) a v where
  self := by simpa using World.cell?_setCell_same w a v h
  other := fun x hx => by simpa using World.cell?_setCell_other w a x v (fun e => hx e.symm)
  frozen := fun x => by simp
  size := by simp
  below := fun B hB => below_drewN ((Below.refl B w).setCell hB v) q
theorem sets_same {w : World} {a : Addr} {u : Value} (h : w.cell? a = some u) (q : Nat) : Sets w (w.drewN q) a u where
  self := h
  other := fun _ _ => rfl
  frozen := fun _ => rfl
  size := rfl
  below := fun B _ => below_drewN (Below.refl B w) q

/-- What keepFault leaves at r: s: the slots; old: what stood there; v: what is offered. -/
def kf (s : List Int) (old v : Int) : Int := if old < 0 ∨ s.getD v.toNat 0 < s.getD old.toNat 0 then v else old

theorem keep_any (b gs gf n cs m cf : Nat) (s : List Int) (old r v : Int) (w : World)
    (h14 : w.cell? ⟨b, 14, none⟩ = some (.slice (some ⟨gf, 0, none⟩) m cf))
    (h6 : w.cell? ⟨b, 6, none⟩ = some (.slice (some ⟨gs, 0, none⟩) n cs))
    (hs : ∀ j, j < n → w.cell? ⟨gs, j, none⟩ = some (.int .i32 (s.getD j 0)))
    (hr0 : 0 ≤ r) (hr : r < m) (hv0 : 0 ≤ v) (hv : v < n) (ho : old < n)
    (hold : w.cell? ⟨gf, r.toNat, none⟩ = some (.int .i32 old)) (hfz : w.frozen? ⟨gf, r.toNat, none⟩ = false) :
    Calls Yba.prog 12 #[.pointer (some ⟨b, 0, none⟩), .int .i32 r, .int .i32 v] w fun e w' => e = .returned (.tuple #[]) ∧ Sets w w' ⟨gf, r.toNat, none⟩ (.int .i32 (kf s old v)) := by
  by_cases h1 : old < 0
  · refine (keep_neg b gf m cf old r v w h14 hr0 hr hold h1 hfz).mono ?_
    rintro e w' ⟨rfl, q, rfl⟩
    refine ⟨rfl, ?_⟩
    have e1 : kf s old v = v := by simp [kf, h1]
    rw [e1]
    exact sets_set hold _ q
  · have ha := hs v.toNat (by omega)
    have hc := hs old.toNat (by omega)
    by_cases h2 : s.getD v.toNat 0 < s.getD old.toNat 0
    · refine (keep_low b gs gf n cs m cf old r v _ _ w h14 h6 hr0 hr hv0 hv (by omega) ho hold hfz ha hc h2).mono ?_
      rintro e w' ⟨rfl, q, rfl⟩
      refine ⟨rfl, ?_⟩
      have e1 : kf s old v = v := by unfold kf; rw [if_pos (.inr h2)]
      rw [e1]
      exact sets_set hold _ q
    · refine (keep_not b gs gf n cs m cf old r v _ _ w h14 h6 hr0 hr hv0 hv (by omega) ho hold ha hc h2).mono ?_
      rintro e w' ⟨rfl, q, rfl⟩
      refine ⟨rfl, ?_⟩
      have e1 : kf s old v = old := by unfold kf; rw [if_neg (by rintro (h | h) <;> contradiction)]
      rw [e1]
      exact sets_same hold q

/-- WHAT THE WALK IS TOLD OF A SLICE OF INTEGERS THAT CAME IN: it is nil; or it leads to a row of 'cap' cells, the numbers 'zs' (the first 'len' are its elements, the rest its spare room), each fitting its kind. -/
def IsRow (k : IntKind) (w : World) (a : Option Addr) (len cap : Nat) (zs : List Int) : Prop :=
  (a = none ∧ len = 0 ∧ cap = 0 ∧ zs = []) ∨
  ∃ x, a = some x ∧ len ≤ cap ∧ cap ≤ maxLen ∧ zs.length = cap ∧ (∀ i, i < zs.length → w.cell? (x.add i) = some (.int k (zs.getD i 0))) ∧ ∀ n ∈ zs, (Lit.int k n).wf = true

/-- A slice that came in and has an element. -/
theorem IsRow.some {k : IntKind} {w : World} {a : Option Addr} {len cap : Nat} {zs : List Int} (h : IsRow k w a len cap zs) (hp : 0 < len) :
    ∃ b off, a = Option.some ⟨b, off, none⟩ ∧ b < w.heap.size ∧ (∀ j, j < len → w.cell? ⟨b, off + j, none⟩ = Option.some (.int k ((zs.take len).getD j 0))) ∧ (zs.take len).length = len ∧ ∀ n ∈ zs.take len, (Lit.int k n).wf = true := by
  rcases h with ⟨_, h, _⟩ | ⟨x, rfl, hl, hm, hz, hc, hw⟩
  · omega
  obtain ⟨b, off, spot⟩ := x
  have hspot : spot = none := by simpa [Addr.add] using World.cell?_spot (hc 0 (by omega))
  subst hspot
  have hc' : ∀ j, j < zs.length → w.cell? ⟨b, off + j, none⟩ = Option.some (.int k (zs.getD j 0)) := fun j hj => by rw [← add_plain]; exact hc j hj
  refine ⟨b, off, rfl, cell_lt (hc' 0 (by omega)), fun j hj => ?_, by simp; omega, fun n hn => hw n (List.mem_of_mem_take hn)⟩
  rw [hc' j (by omega)]
  simp [hj]
end Go.Proofs.Ybulkbacs
