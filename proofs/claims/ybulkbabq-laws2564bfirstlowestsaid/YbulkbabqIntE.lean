import Derived.Test.YbulkbabqIntA
namespace Go.Proofs.Ybulkbabq
open Go.ChangeShapes Go.WideShapes Go.ChangeAt Go.RowKit
set_option linter.unusedVariables false

set_option maxHeartbeats 2000000 in
set_option maxRecDepth 100000 in
theorem int_sub2 (B zp yp : Nat) (s : Bool) (zv yv : Value) (A C : Int) (w : World) (hB : B ≤ w.heap.size) (mx : Mag w B zp s zv A) (my : Mag w B yp s yv C) (hzy : yp ≠ zp)
    (x0 : 0 ≤ A) (x1 : A < 170141183460469231731687303715884105728) (y0 : 0 ≤ C) (y1 : C < 18446744073709551616) (hAC : C ≤ A) :
    Calls Yba.prog 13 #[.pointer (some ⟨zp, 0, none⟩), .pointer (some ⟨zp, 0, none⟩), .pointer (some ⟨yp, 0, none⟩)] w fun e w' => e = .returned (.pointer (some ⟨zp, 0, none⟩)) ∧ (∃ u, Mag w' B zp (decide (0 < A - C) && s) u (A - C)) ∧ Below B w w' := by
  have mz := mx
  have HH := hide (And.intro mz (And.intro mx my))
  have a0 := mx.c0
  have b0 := my.c0
  clear mz mx my
  go_enter Yba.func13, Yba.ntmps13
  go_wp2_with fail
  go_quiet (fail)
  go_wp2_with fail
  have eW : Eqv w (w.drewN nq) := ⟨rfl, rfl, rfl, rfl⟩
  obtain ⟨mz0, mx0, my0⟩ := HH.out
  have mz := mz0.eqv eW
  have mx := mx0.eqv eW
  have my := my0.eqv eW
  have hBW : B ≤ (w.drewN nq).heap.size := hB
  have HEW := hide eW
  clear eW mz0 mx0 my0 HH a0 b0
  generalize w.drewN nq = W at *
  have HM := hide (And.intro mz (And.intro mx my))
  have a1 := mx.c1
  have b1 := my.c1
  have hs : decide (0 ≤ sgn A C) = true := by unfold sgn; rw [if_neg (by omega)]; split <;> decide
  clear mz mx my
  go_region_held3 (fun w' => w'.cell? ⟨zp, 1, none⟩ = some zv ∧ w'.cell? ⟨yp, 1, none⟩ = some yv)
    (first | assumption | (simp [go_sem, *]; done))
    (first | (go_at_call 24; refine (cmp_any B B zv yv A C W.drew x0 y0 HM.out.2.1.nat HM.out.2.2.nat).mono ?_; rintro en wc ⟨rfl, ec⟩; have ec' : Eqv W wc := ⟨ec.heap, ec.os, ec.tape, ec.output⟩; have fx := (HM.out.2.1.eqv ec').c1; have fy := (HM.out.2.2.eqv ec').c1))
  have HEC : Hid (Eqv w wc) := ⟨ec'.heap.trans HEW.out.heap, ec'.os.trans HEW.out.os, ec'.tape.trans HEW.out.tape, ec'.output.trans HEW.out.output⟩
  have mz := HM.out.1.eqv ec'
  have mx := HM.out.2.1.eqv ec'
  have my := HM.out.2.2.eqv ec'
  have hBC : B ≤ wc.heap.size := by rw [ec'.heap]; exact hBW
  have HMC := hide (And.intro mz (And.intro mx my))
  clear a1 b1 fx fy ec ec' HM HEW hBW mz mx my
  go_wp2_with fail
  clear hs
  have hBW := hBC
  have HEW := HEC
  obtain ⟨mz, mx, my⟩ := HMC.out
  clear HEC HMC hBC
  generalize hwc : wc = W at *
  clear hwc
  have hX := sub_any B _ zv zv yv _ A C W.drew hBW mz.nat mx.nat my.nat hAC x1 y0 y1
  have H := hide (And.intro mz (And.intro mx (And.intro my hX)))
  skip
  have b1 := my.c1
  have z1 := mz.c1
  clear mz mx my hX
  go_region_with
    (first | (go_at_call 25; refine H.out.2.2.2.mono ?_; rintro en w1 ⟨v', rfl, hn, hg⟩; obtain ⟨ao, cp, rfl⟩ := owns_isSlice hn; have hg' : W.grownBy w1 zv.ownBlock := ⟨hg.os, hg.tape, hg.output, hg.size, hg.block⟩; have fc := H.out.1.cell_kept hg' (own_ne H.out.1.nat H.out.1.heap) z1; have ff : w1.frozen? ⟨zp, 1, none⟩ = false := (frozen_of_row w1 zp 1 _ 39 (H.out.1.heap_kept hg' (own_ne H.out.1.nat H.out.1.heap)))))
  all_goals
    have fc0 := H.out.1.cell_kept hg' (own_ne H.out.1.nat H.out.1.heap) H.out.1.c0
    have ff0 : w1.frozen? ⟨zp, 0, none⟩ = false := (frozen_of_row w1 zp 0 _ 39 (H.out.1.heap_kept hg' (own_ne H.out.1.nat H.out.1.heap)))
    have HX := hide (And.intro hg' hn)
    have HL := hide (len_case (A - C) (by omega))
    clear hg hg' hn
    generalize (words (A - C)).length = m at *
    rcases HL.out with ⟨l0, l1, l2⟩ | ⟨l0, l1, l2⟩
    · have L0 := hide l0
      clear l0
      go_wp2
      go_ret
      have := mag_end HEW.out H.out.1 hBW HX.out.1 HX.out.2 (s)
      exact ⟨rfl, by rw [L0.out]; simpa using this.1, by simpa using this.2⟩
    · have L0 := hide l0
      clear l0
      go_wp2
      go_ret
      have := mag_end HEW.out H.out.1 hBW HX.out.1 HX.out.2 false
      exact ⟨rfl, by rw [L0.out]; simpa using this.1, this.2⟩

end Go.Proofs.Ybulkbabq
