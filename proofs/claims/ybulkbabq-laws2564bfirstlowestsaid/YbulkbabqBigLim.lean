import Derived.Test.YbulkbabqIntH
namespace Go.Proofs.Ybulkbabq
open Go.ChangeShapes Go.WideShapes Go.ChangeAt Go.RowKit
set_option linter.unusedVariables false

theorem newInt_at (B : Nat) (x : Int) (w : World) (hB : B ≤ w.heap.size) (h0 : -9223372036854775808 ≤ x) (h1 : x ≤ 9223372036854775807) :
    Calls Yba.prog 12 #[.int .i64 x] w fun e w' => ∃ p, e = .returned (.pointer (some ⟨p, 0, none⟩)) ∧ IntAt w' B p x ∧ w.heap.size ≤ p ∧ Below w.heap.size w w' := by
  refine (newInt_any x w h0 h1).mono ?_
  rintro e w' ⟨p, rfl, hi, hb⟩
  exact ⟨p, rfl, hi.later (Below.refl _ _) hB, hi.base, hb⟩

set_option maxHeartbeats 2000000 in
set_option maxRecDepth 100000 in
theorem biglim_any (fr to c e s : Int) (w : World) (c0 : -9223372036854775808 ≤ c) (c1 : c ≤ 9223372036854775807) (e0 : -9223372036854775808 ≤ e) (e1 : e ≤ 9223372036854775807) (s0 : -9223372036854775808 ≤ s) (s1 : s ≤ 9223372036854775807) :
    Calls Yba.prog 5 #[.agg #[.int .i64 fr, .int .i64 to, .int .i64 c, .int .i64 e, .int .i64 s]] w fun en w' => ∃ p, en = .returned (.pointer (some ⟨p, 0, none⟩)) ∧ IntAt w' w.heap.size p (lim c e s) ∧ Below w.heap.size w w' := by
  go_enter Yba.func5, Yba.ntmps5
  go_wp2_with fail
  have k2 : (w.alloc (.cells #[.int .i64 fr, .int .i64 to, .int .i64 c, .int .i64 e, .int .i64 s] 24)).cell? ⟨w.heap.size, 2, none⟩ = some (.int .i64 c) := by simp [go_sem]
  have k3 : (w.alloc (.cells #[.int .i64 fr, .int .i64 to, .int .i64 c, .int .i64 e, .int .i64 s] 24)).cell? ⟨w.heap.size, 3, none⟩ = some (.int .i64 e) := by simp [go_sem]
  have k4 : (w.alloc (.cells #[.int .i64 fr, .int .i64 to, .int .i64 c, .int .i64 e, .int .i64 s] 24)).cell? ⟨w.heap.size, 4, none⟩ = some (.int .i64 s) := by simp [go_sem]
  have hW : w.heap.size < (w.alloc (.cells #[.int .i64 fr, .int .i64 to, .int .i64 c, .int .i64 e, .int .i64 s] 24)).heap.size := by simp
  have HB0 : Hid (Below w.heap.size w (w.alloc (.cells #[.int .i64 fr, .int .i64 to, .int .i64 c, .int .i64 e, .int .i64 s] 24))) := (Below.refl _ _).alloc (Nat.le_refl _) _
  generalize w.alloc (.cells #[.int .i64 fr, .int .i64 to, .int .i64 c, .int .i64 e, .int .i64 s] 24) = W at *
  generalize hN : w.heap.size = N at *
  have HN := hide hN
  clear hN
  go_region_held3 (fun w' => N < w'.heap.size ∧ w'.cell? ⟨N, 2, none⟩ = some (.int .i64 c) ∧ w'.cell? ⟨N, 3, none⟩ = some (.int .i64 e) ∧ w'.cell? ⟨N, 4, none⟩ = some (.int .i64 s))
    (first | assumption | (simp [go_sem, World.cell?_alloc_past, *]; done) | (simp [go_sem, World.cell?_alloc_past, *]; omega))
    (first
      | (go_at_call_of 12 (Value.int IntKind.i64 e); refine (newInt_at (N + 1) e _ (by first | omega | (simp; omega)) e0 e1).mono ?_; rintro en wa ⟨pe, rfl, ia, na, ba⟩; have na' := na; (try simp at na'); have la := ia.lt; have za := ba.size; (try simp at za); have fwa : (N < wa.heap.size ∧ wa.cell? ⟨N, 2, none⟩ = some (.int .i64 c) ∧ wa.cell? ⟨N, 3, none⟩ = some (.int .i64 e) ∧ wa.cell? ⟨N, 4, none⟩ = some (.int .i64 s)) := (by have h1 := ba.size; refine ⟨by omega, (ba.cell (p := ⟨N, 2, none⟩) (by show N < _; omega)).trans (by simp [*]), (ba.cell (p := ⟨N, 3, none⟩) (by show N < _; omega)).trans (by simp [*]), (ba.cell (p := ⟨N, 4, none⟩) (by show N < _; omega)).trans (by simp [*])⟩))
      | (go_at_call_of 12 (Value.int IntKind.i64 s); refine (newInt_at (N + 1) s _ (by first | omega | (simp; omega)) s0 s1).mono ?_; rintro en wb ⟨ps, rfl, ib, nb, bb⟩; have nb' := nb; (try simp at nb'); have lb := ib.lt; have zb := bb.size; (try simp at zb); have fwb : (N < wb.heap.size ∧ wb.cell? ⟨N, 2, none⟩ = some (.int .i64 c) ∧ wb.cell? ⟨N, 3, none⟩ = some (.int .i64 e) ∧ wb.cell? ⟨N, 4, none⟩ = some (.int .i64 s)) := (by have h1 := bb.size; refine ⟨by omega, (bb.cell (p := ⟨N, 2, none⟩) (by show N < _; omega)).trans (by simp [*]), (bb.cell (p := ⟨N, 3, none⟩) (by show N < _; omega)).trans (by simp [*]), (bb.cell (p := ⟨N, 4, none⟩) (by show N < _; omega)).trans (by simp [*])⟩))
      | (go_at_call 11; refine (iadd_any (N + 1) _ pe ps false (.slice none 0 0) 0 e s _ (by first | omega | (simp; omega)) (by first | exact ((mag_new W.drew (N + 1) (by first | omega | (simp; omega))).later ba (Nat.le_refl _)).later bb (Nat.le_refl _) | exact ((mag_new W.drew (N + 1) (by first | omega | (simp; omega))).later bb (Nat.le_refl _)).later ba (Nat.le_refl _) | exact (mag_new wa (N + 1) (by first | omega | (simp; omega))).later bb (Nat.le_refl _) | exact (mag_new wb (N + 1) (by first | omega | (simp; omega))).later ba (Nat.le_refl _) | exact mag_new _ (N + 1) (by first | omega | (simp; omega))) (by first | exact ia | exact ia.later bb (Nat.le_refl _) | exact ia.later ((Below.refl _ _).alloc (Nat.le_refl _) _) (Nat.le_refl _) | exact ia.later (bb.alloc bb.size _) (Nat.le_refl _) | exact ia.later (((Below.refl _ _).alloc (Nat.le_refl _) _).trans (bb.mono (by simp))) (Nat.le_refl _)) (by first | exact ib | exact ib.later ba (Nat.le_refl _) | exact ib.later ((Below.refl _ _).alloc (Nat.le_refl _) _) (Nat.le_refl _) | exact ib.later (ba.alloc ba.size _) (Nat.le_refl _) | exact ib.later (((Below.refl _ _).alloc (Nat.le_refl _) _).trans (ba.mono (by simp))) (Nat.le_refl _)) (by omega) (by omega) e0 (by omega) s0 (by omega)).mono ?_; rintro en wd ⟨rfl, id, bd⟩; have HD : Hid (Below N w wd) := (by first | exact (((HB0.out.drew.alloc (by first | omega | (simp; omega)) _).trans (ba.mono (by first | omega | (simp; omega)))).trans (bb.mono (by first | omega | (simp; omega)))).trans (bd.mono (by first | omega | (simp; omega))) | exact (((HB0.out.drew.trans (ba.mono (by first | omega | (simp; omega)))).alloc (by first | omega | (simp; omega)) _).trans (bb.mono (by first | omega | (simp; omega)))).trans (bd.mono (by first | omega | (simp; omega))) | exact (((HB0.out.drew.trans (ba.mono (by first | omega | (simp; omega)))).trans (bb.mono (by first | omega | (simp; omega)))).alloc (by first | omega | (simp; omega)) _).trans (bd.mono (by first | omega | (simp; omega))) | exact (((HB0.out.drew.alloc (by first | omega | (simp; omega)) _).trans (bb.mono (by first | omega | (simp; omega)))).trans (ba.mono (by first | omega | (simp; omega)))).trans (bd.mono (by first | omega | (simp; omega))) | exact (((HB0.out.drew.trans (bb.mono (by first | omega | (simp; omega)))).alloc (by first | omega | (simp; omega)) _).trans (ba.mono (by first | omega | (simp; omega)))).trans (bd.mono (by first | omega | (simp; omega))) | exact (((HB0.out.drew.trans (bb.mono (by first | omega | (simp; omega)))).trans (ba.mono (by first | omega | (simp; omega)))).alloc (by first | omega | (simp; omega)) _).trans (bd.mono (by first | omega | (simp; omega)))); have fwd : (N < wd.heap.size ∧ wd.cell? ⟨N, 2, none⟩ = some (.int .i64 c) ∧ wd.cell? ⟨N, 3, none⟩ = some (.int .i64 e) ∧ wd.cell? ⟨N, 4, none⟩ = some (.int .i64 s)) := (by have h1 := bd.size; refine ⟨by omega, (bd.cell (p := ⟨N, 2, none⟩) (by show N < _; omega)).trans (by simp [*]), (bd.cell (p := ⟨N, 3, none⟩) (by show N < _; omega)).trans (by simp [*]), (bd.cell (p := ⟨N, 4, none⟩) (by show N < _; omega)).trans (by simp [*])⟩)))
  all_goals
    have ld := id.lt
    have kc := fwd.2.1
    clear ia ib na nb ba bb bd na' nb' la lb za zb fwa fwb fwd k2 k3 k4
    go_wp2_with (go_at_call 12; refine (newInt_at (N + 1) c _ (by omega) c0 c1).mono ?_; rintro en wf ⟨pc, rfl, ic, nc, bf⟩)
    have sf := bf.size
    have HI := hide (And.intro id (And.intro ic bf))
    clear id ic bf kc
    go_wp2_with (go_at_call 13; refine (isub_any (N + 1) _ pc (e + s) c _ (by omega) (HI.out.1.later HI.out.2.2 (Nat.le_refl _)) HI.out.2.1 (by omega) (by omega) (by omega) c0 (by omega)).mono ?_; rintro en wg ⟨rfl, ig, bg⟩)
    have HG := hide (And.intro ig bg)
    clear ig bg
    go_wp2
    go_ret
    refine ⟨_, rfl, ?_, ?_⟩
    · rw [HN.out]
      exact HG.out.1.later (Below.refl _ _) (by omega)
    · rw [HN.out]
      exact (HD.out.trans (HI.out.2.2.mono (by omega))).trans (HG.out.2.mono (by omega))
end Go.Proofs.Ybulkbabq
