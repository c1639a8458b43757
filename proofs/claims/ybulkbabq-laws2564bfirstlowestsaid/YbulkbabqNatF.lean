import Derived.Test.YbulkbabqNatE
namespace Go.Proofs.Ybulkbabq
open Go.ChangeShapes Go.WideShapes Go.ChangeAt Go.RowKit
set_option linter.unusedVariables false

set_option maxHeartbeats 1000000 in
set_option maxRecDepth 100000 in
theorem add_swap (B nz : Nat) (zv yv : Value) (zs : List Value) (ax : Option Addr) (cx : Nat) (Y : Int) (w : World) (hB : B ≤ w.heap.size) (hz : w.ownsRow B 55 1 zv nz zs) (hy : Nt w B yv Y) (y0 : 0 < Y) (y1 : Y < 340282366920938463463374607431768211456) :
    Calls Yba.prog 23 #[zv, .slice ax 0 cx, yv] w fun e w' => Gives w B zv Y e w' := by
  have h23 := add_x0 B nz zv yv zs ax cx Y w hB hz hy y0 y1
  obtain ⟨ay, cy, rfl⟩ := owns_isSlice hy
  have hm : 0 < (words Y).length ∧ (words Y).length ≤ 2 := by have := words_len Y (by omega); omega
  obtain ⟨hm0, hm2⟩ := hm
  generalize (words Y).length = m at *
  have d0 : decide ((0 : Int) < (m : Int)) = true := by simp; omega
  have HH := hide h23
  clear h23 hz hy
  go_enter Yba.func23, Yba.ntmps23
  go_wp2_with (go_at_call 23; refine HH.out.mono ?_; rintro en w1 ⟨v', rfl, hn, hg⟩)
  have HG := hide (And.intro hn hg)
  clear hn hg
  go_wp2
  go_ret
  exact ⟨v', rfl, HG.out.1, HG.out.2⟩

theorem add_any (B nz : Nat) (zv xv yv : Value) (zs : List Value) (X Y : Int) (w : World) (hB : B ≤ w.heap.size) (hz : w.ownsRow B 55 1 zv nz zs) (hx : Nt w B xv X) (hy : Nt w B yv Y) (x0 : 0 ≤ X) (x1 : X < 170141183460469231731687303715884105728) (y0 : 0 ≤ Y) (y1 : Y < 18446744073709551616) :
    Calls Yba.prog 23 #[zv, xv, yv] w fun e w' => Gives w B zv (X + Y) e w' := by
  by_cases hX : X = 0
  · subst hX
    obtain ⟨ax, cx, rfl⟩ := nt_zero hx
    rw [Int.zero_add]
    by_cases hY : Y = 0
    · subst hY
      obtain ⟨ay, cy, rfl⟩ := nt_zero hy
      exact add_zz B nz zv zs ax ay cx cy w hz
    · exact add_swap B nz zv yv zs ax cx Y w hB hz hy (by omega) (by omega)
  · by_cases hY : Y = 0
    · subst hY
      obtain ⟨ay, cy, rfl⟩ := nt_zero hy
      rw [Int.add_zero]
      exact add_x0 B nz zv xv zs ay cy X w hB hz hx (by omega) (by omega)
    · obtain ⟨q, cy, cury, rfl, hcy, ry, g1⟩ := nt_one hy (by omega) y1
      by_cases h1 : X < 18446744073709551616
      · obtain ⟨p, cx, curx, rfl, hcx, rx, g0⟩ := nt_one hx (by omega) h1
        exact add_11 B nz zv zs p cx q cy curx cury X Y w hB hz hcx hcy rx g0 ry g1 (by omega) h1 (by omega) y1
      · obtain ⟨p, cx, curx, rfl, hcx, rx, g0, g2⟩ := nt_two hx (by omega)
        exact add_21 B nz zv zs p cx q cy curx cury X Y w hB hz hcx hcy rx g0 g2 ry g1 (by omega) x1 (by omega) y1

set_option maxHeartbeats 1000000 in
set_option maxRecDepth 100000 in
theorem sub_zz (B nz : Nat) (zv : Value) (zs : List Value) (ax ay : Option Addr) (cx cy : Nat) (w : World) (hz : w.ownsRow B 55 1 zv nz zs) :
    Calls Yba.prog 25 #[zv, .slice ax 0 cx, .slice ay 0 cy] w fun e w' => Gives w B zv 0 e w' := by
  obtain ⟨_, ⟨rfl, rfl⟩ | ⟨g, cap, cur, rfl, hb, hh, hnc, hcm, hs, ht⟩⟩ := hz
  · go_enter Yba.func25, Yba.ntmps25
    go_wp2
    go_ret
    exact ⟨_, rfl, World.ownsRow_nil _ _ _ _, World.grownBy.refl _ _⟩
  · have HR := hide (⟨hb, hh, by omega, hcm⟩ : Rw w B g cap cur)
    clear hb hh hs ht
    go_enter Yba.func25, Yba.ntmps25
    go_wp2
    go_ret
    exact ⟨_, rfl, nt_mk0 HR.out, World.grownBy.refl _ _⟩

set_option maxHeartbeats 1000000 in
set_option maxRecDepth 100000 in
theorem sub_x0 (B nz : Nat) (zv xv : Value) (zs : List Value) (ay : Option Addr) (cy : Nat) (X : Int) (w : World) (hB : B ≤ w.heap.size) (hz : w.ownsRow B 55 1 zv nz zs) (hx : Nt w B xv X) (x0 : 0 < X) (x1 : X < 340282366920938463463374607431768211456) :
    Calls Yba.prog 25 #[zv, xv, .slice ay 0 cy] w fun e w' => Gives w B zv X e w' := by
  have h30 := set_any B nz zv xv zs X w hB hz hx x0 x1
  obtain ⟨ax, cx, rfl⟩ := owns_isSlice hx
  have hm : 0 < (words X).length ∧ (words X).length ≤ 2 := by have := words_len X (by omega); omega
  obtain ⟨hm0, hm2⟩ := hm
  generalize (words X).length = m at *
  have d0 : ((m : Int) == 0) = false := by simp; omega
  have d0' : (m == 0) = false := by simp; omega
  have HH := hide h30
  clear h30 hz hx
  go_enter Yba.func25, Yba.ntmps25
  go_wp2_with (go_at_call 30; refine HH.out.mono ?_; rintro en w1 ⟨v', rfl, hn, hg⟩)
  have HG := hide (And.intro hn hg)
  clear hn hg
  go_wp2
  go_ret
  exact ⟨v', rfl, HG.out.1, HG.out.2⟩

set_option maxHeartbeats 1000000 in
set_option maxRecDepth 100000 in
theorem sub_11 (B nz : Nat) (zv : Value) (zs : List Value) (p cx q cy : Nat) (curx cury : Array Value) (X Y : Int) (w : World) (hB : B ≤ w.heap.size) (hz : w.ownsRow B 55 1 zv nz zs) (hcx : 1 ≤ cx) (hcy : 1 ≤ cy)
    (rx : Rw w B p cx curx) (g0 : curx[0]? = some (.int .u64 X)) (ry : Rw w B q cy cury) (g1 : cury[0]? = some (.int .u64 Y)) (hxy : Y ≤ X) (x1 : X < 18446744073709551616) (y0 : 0 < Y) :
    Calls Yba.prog 25 #[zv, .slice (some ⟨p, 0, none⟩) 1 cx, .slice (some ⟨q, 0, none⟩) 1 cy] w fun e w' => Gives w B zv (X - Y) e w' := by
  have h31 := make_any B 1 nz zv zs w hB (.inl rfl) hz
  have hvv := vv_sub
  have wx : Wd X := ⟨by omega, by omega⟩
  have wy : Wd Y := ⟨by omega, by omega⟩
  have hb0 : sbo X Y = 0 := by unfold sbo; rw [if_neg (by omega)]
  have HH := hide (And.intro h31 (And.intro rx (And.intro g0 (And.intro ry (And.intro g1 (And.intro wx (And.intro wy hb0)))))))
  clear h31 rx g0 ry g1 wx wy hz hb0
  go_enter Yba.func25, Yba.ntmps25
  go_wp2_with (go_at_call 31; refine HH.out.1.mono ?_; rintro en w1 ⟨g, cap, cur, rfl, hr, hkc, hgr, hloc⟩)
  have rx1 := HH.out.2.1.kept hgr (by simp)
  have ry1 := HH.out.2.2.2.1.kept hgr (by simp)
  have hsz := hr.size
  have h17 := subvv1 g cap p cx q cy X Y (cur[0]'(by omega)) w1.drew HH.out.2.2.2.2.2.1 HH.out.2.2.2.2.2.2.1 (rx1.cell HH.out.2.2.1) (ry1.cell HH.out.2.2.2.2.1) (hr.cell (by simp)) (hr.frozen 0)
  rw [HH.out.2.2.2.2.2.2.2] at h17
  have H17 := hide h17
  have HR := hide (And.intro hr (And.intro hgr hloc))
  clear h17 hr hgr hloc rx1 ry1
  have i1 : (1 : Int) ≤ (cap : Int) := by omega
  have i2 : (1 : Int) ≤ (cx : Int) := by omega
  have i3 : (1 : Int) ≤ (cy : Int) := by omega
  go_wp2_with fail
  go_region_held3 (fun w' => True) (first | trivial | assumption | (simp [go_sem, *]; done))
    (first | (go_at_call 18; refine H17.out.mono ?_; rintro en w2 ⟨rfl, he2⟩))
  have he2' := he2.undrew
  obtain ⟨hr, hgr, hloc⟩ := HR.out
  have hr2 := hr.set he2'
  have hw3 : ∀ o, o < 1 → (cur.setIfInBounds 0 (.int .u64 (slo X Y)))[o]? = some (.int .u64 (wsOf (X - Y) o)) := fun o ho => by
    match o, ho with
    | 0, _ => rw [set_get (by omega)]; rfl
  have h34 := norm_any g 1 cap (wsOf (X - Y)) w2 (by omega) hkc (fun o ho => hr2.cell (hw3 o ho))
  have hgr3 : w.grownBy w2 zv.ownBlock := made_row hloc hgr he2'.grown
  have hh0 : hi (X - Y) = 0 := by unfold hi; omega
  have HF := hide (And.intro hr2 (And.intro hw3 (And.intro h34 (And.intro hgr3 hh0))))
  clear he2 he2' hr hgr hloc hr2 hw3 h34 hgr3 HR H17 HH hh0
  go_wp2_with (go_at_call 34; refine HF.out.2.2.1.mono ?_; rintro en w3 ⟨j, hj, rfl, hz, hn, rfl⟩)
  have HZ := hide (And.intro hz hn)
  clear hz hn
  go_wp2
  go_ret
  exact ⟨_, rfl, nt_norm HF.out.1 hkc (by omega) HF.out.2.1 (by omega) (fun _ => HF.out.2.2.2.2) hj HZ.out.1 HZ.out.2, HF.out.2.2.2.1⟩

theorem sub_lo (X Y : Int) : slo (lo X) Y = lo (X - Y) := by unfold slo lo; omega
theorem sub_hi (X Y : Int) (x0 : 18446744073709551616 ≤ X) (x1 : X < 170141183460469231731687303715884105728) (y0 : 0 ≤ Y) (y1 : Y < 18446744073709551616) : slo (hi X) (sbo (lo X) Y) = hi (X - Y) := by unfold slo sbo lo hi; split <;> omega
theorem sub_no (X Y : Int) (x0 : 18446744073709551616 ≤ X) (y0 : 0 ≤ Y) (y1 : Y < 18446744073709551616) : sbo (hi X) (sbo (lo X) Y) = 0 := by unfold sbo lo hi; split <;> split <;> omega

set_option maxHeartbeats 1000000 in
set_option maxRecDepth 100000 in
theorem sub_21 (B nz : Nat) (zv : Value) (zs : List Value) (p cx q cy : Nat) (curx cury : Array Value) (X Y : Int) (w : World) (hB : B ≤ w.heap.size) (hz : w.ownsRow B 55 1 zv nz zs) (hcx : 2 ≤ cx) (hcy : 1 ≤ cy)
    (rx : Rw w B p cx curx) (g0 : curx[0]? = some (.int .u64 (lo X))) (g2 : curx[1]? = some (.int .u64 (hi X))) (ry : Rw w B q cy cury) (g1 : cury[0]? = some (.int .u64 Y)) (x0 : 18446744073709551616 ≤ X) (x1 : X < 170141183460469231731687303715884105728) (y0 : 0 < Y) (y1 : Y < 18446744073709551616) :
    Calls Yba.prog 25 #[zv, .slice (some ⟨p, 0, none⟩) 2 cx, .slice (some ⟨q, 0, none⟩) 1 cy] w fun e w' => Gives w B zv (X - Y) e w' := by
  have h31 := make_any B 2 nz zv zs w hB (.inr (.inl rfl)) hz
  have hvv := vv_sub
  have wy : Wd Y := ⟨by omega, by omega⟩
  have HH := hide (And.intro h31 (And.intro rx (And.intro g0 (And.intro ry (And.intro g1 (And.intro wy g2))))))
  clear h31 rx g0 ry g1 g2 wy hz
  go_enter Yba.func25, Yba.ntmps25
  go_wp2_with (go_at_call 31; refine HH.out.1.mono ?_; rintro en w1 ⟨g, cap, cur, rfl, hr, hkc, hgr, hloc⟩)
  have rx1 := HH.out.2.1.kept hgr (by simp)
  have ry1 := HH.out.2.2.2.1.kept hgr (by simp)
  have hsz := hr.size
  have h17 := subvv1 g cap p cx q cy (lo X) Y (cur[0]'(by omega)) w1.drew (lo_wd X) HH.out.2.2.2.2.2.1 (rx1.cell HH.out.2.2.1) (ry1.cell HH.out.2.2.2.2.1) (hr.cell (by simp)) (hr.frozen 0)
  have H17 := hide h17
  have HR := hide (And.intro hr (And.intro hgr (And.intro hloc rx1)))
  clear h17 hr hgr hloc rx1 ry1
  have i1 : (1 : Int) ≤ (cap : Int) := by omega
  have i2 : (1 : Int) ≤ (cx : Int) := by omega
  have i3 : (1 : Int) ≤ (cy : Int) := by omega
  have i4 : (2 : Int) ≤ (cap : Int) := by omega
  have i5 : (2 : Int) ≤ (cx : Int) := by omega
  have i6 : ¬ cap = 1 := by omega
  have i7 : ¬ cx = 1 := by omega
  go_wp2_with fail
  go_region_held3 (fun w' => True) (first | trivial | assumption | (simp [go_sem, *]; done))
    (first | (go_at_call 18; refine H17.out.mono ?_; rintro en w2 ⟨rfl, he2⟩))
  have he2' := he2.undrew
  obtain ⟨hr, hgr, hloc, rx1⟩ := HR.out
  have hr2 := hr.set he2'
  obtain ⟨curx2, rx2, hrx2⟩ := rx1.behind he2'
  have h33 := subvw1 g (cap - 1) p (cx - 1) (hi X) (sbo (lo X) Y) _ _ w2.drew (hi_wd X (by omega) x1) (by have := sbo_01 (lo X) Y; exact ⟨by omega, by omega⟩) (by omega) (by omega) (sub_no X Y x0 (by omega) y1) hr2.heap rx2.heap ((hrx2 1 (by omega)).trans HH.out.2.2.2.2.2.2) (by simp; omega)
  have HF := hide (And.intro hr2 (And.intro he2' (And.intro hgr (And.intro hloc h33))))
  clear he2 he2' hr hgr hloc hr2 rx1 rx2 hrx2 h33 HR H17 HH
  go_wp2_with fail
  go_region_held3 (fun w' => True) (first | trivial | assumption | (simp [go_sem, *]; done))
    (first | (go_at_call 37; refine HF.out.2.2.2.2.mono ?_; rintro en w3 ⟨rfl, he3⟩))
  obtain ⟨hr2, he2', hgr, hloc, _⟩ := HF.out
  have he3' := he3.undrew
  have hr3 := hr2.set he3'
  have hw4 : ∀ o, o < 2 → ((cur.setIfInBounds 0 (.int .u64 (slo (lo X) Y))).setIfInBounds 1 (.int .u64 (slo (hi X) (sbo (lo X) Y))))[o]? = some (.int .u64 (wsOf (X - Y) o)) := fun o ho => by
    match o, ho with
    | 0, _ => rw [set_get_other (by omega), set_get (by omega), sub_lo X Y]; rfl
    | 1, _ => rw [set_get (by simp; omega), sub_hi X Y x0 x1 (by omega) y1]; rfl
  have h34 := norm_any g 2 cap (wsOf (X - Y)) w3 (by omega) hkc (fun o ho => hr3.cell (hw4 o ho))
  have hgr3 : w.grownBy w3 zv.ownBlock := made_row hloc hgr (he2'.grown.trans he3'.grown)
  have HE := hide (And.intro hr3 (And.intro hw4 (And.intro h34 hgr3)))
  clear he2' he3 he3' hgr hloc hr2 hr3 hw4 h34 hgr3 HF
  go_wp2_with (go_at_call 34; refine HE.out.2.2.1.mono ?_; rintro en w4 ⟨j, hj, rfl, hz, hn, rfl⟩)
  have HZ := hide (And.intro hz hn)
  clear hz hn
  go_wp2
  go_ret
  exact ⟨_, rfl, nt_norm HE.out.1 hkc (by omega) HE.out.2.1 (by omega) (by omega) hj HZ.out.1 HZ.out.2, HE.out.2.2.2⟩

theorem sub_any (B nz : Nat) (zv xv yv : Value) (zs : List Value) (X Y : Int) (w : World) (hB : B ≤ w.heap.size) (hz : w.ownsRow B 55 1 zv nz zs) (hx : Nt w B xv X) (hy : Nt w B yv Y) (hxy : Y ≤ X) (x1 : X < 170141183460469231731687303715884105728) (y0 : 0 ≤ Y) (y1 : Y < 18446744073709551616) :
    Calls Yba.prog 25 #[zv, xv, yv] w fun e w' => Gives w B zv (X - Y) e w' := by
  by_cases hX : X = 0
  · subst hX
    obtain rfl : Y = 0 := by omega
    obtain ⟨ax, cx, rfl⟩ := nt_zero hx
    obtain ⟨ay, cy, rfl⟩ := nt_zero hy
    exact sub_zz B nz zv zs ax ay cx cy w hz
  · by_cases hY : Y = 0
    · subst hY
      obtain ⟨ay, cy, rfl⟩ := nt_zero hy
      rw [Int.sub_zero]
      exact sub_x0 B nz zv xv zs ay cy X w hB hz hx (by omega) (by omega)
    · obtain ⟨q, cy, cury, rfl, hcy, ry, g1⟩ := nt_one hy (by omega) y1
      by_cases h1 : X < 18446744073709551616
      · obtain ⟨p, cx, curx, rfl, hcx, rx, g0⟩ := nt_one hx (by omega) h1
        exact sub_11 B nz zv zs p cx q cy curx cury X Y w hB hz hcx hcy rx g0 ry g1 hxy h1 (by omega)
      · obtain ⟨p, cx, curx, rfl, hcx, rx, g0, g2⟩ := nt_two hx (by omega)
        exact sub_21 B nz zv zs p cx q cy curx cury X Y w hB hz hcx hcy rx g0 g2 ry g1 (by omega) x1 (by omega) y1
end Go.Proofs.Ybulkbabq
