import Derived.Test.YbulkbabqNatD
namespace Go.Proofs.Ybulkbabq
open Go.ChangeShapes Go.WideShapes Go.ChangeAt Go.RowKit
set_option linter.unusedVariables false

set_option maxHeartbeats 1000000 in
set_option maxRecDepth 100000 in
theorem add_zz (B nz : Nat) (zv : Value) (zs : List Value) (ax ay : Option Addr) (cx cy : Nat) (w : World) (hz : w.ownsRow B 55 1 zv nz zs) :
    Calls Yba.prog 23 #[zv, .slice ax 0 cx, .slice ay 0 cy] w fun e w' => Gives w B zv 0 e w' := by
  obtain ⟨_, ⟨rfl, rfl⟩ | ⟨g, cap, cur, rfl, hb, hh, hnc, hcm, hs, ht⟩⟩ := hz
  · go_enter Yba.func23, Yba.ntmps23
    go_wp2
    go_ret
    exact ⟨_, rfl, World.ownsRow_nil _ _ _ _, World.grownBy.refl _ _⟩
  · have HR := hide (⟨hb, hh, by omega, hcm⟩ : Rw w B g cap cur)
    clear hb hh hs ht
    go_enter Yba.func23, Yba.ntmps23
    go_wp2
    go_ret
    exact ⟨_, rfl, nt_mk0 HR.out, World.grownBy.refl _ _⟩

set_option maxHeartbeats 1000000 in
set_option maxRecDepth 100000 in
theorem add_x0 (B nz : Nat) (zv xv : Value) (zs : List Value) (ay : Option Addr) (cy : Nat) (X : Int) (w : World) (hB : B ≤ w.heap.size) (hz : w.ownsRow B 55 1 zv nz zs) (hx : Nt w B xv X) (x0 : 0 < X) (x1 : X < 340282366920938463463374607431768211456) :
    Calls Yba.prog 23 #[zv, xv, .slice ay 0 cy] w fun e w' => Gives w B zv X e w' := by
  have h30 := set_any B nz zv xv zs X w hB hz hx x0 x1
  obtain ⟨ax, cx, rfl⟩ := owns_isSlice hx
  have hm : 0 < (words X).length ∧ (words X).length ≤ 2 := by have := words_len X (by omega); omega
  obtain ⟨hm0, hm2⟩ := hm
  generalize (words X).length = m at *
  have d0 : ((m : Int) == 0) = false := by simp; omega
  have d0' : (m == 0) = false := by simp; omega
  have HH := hide h30
  clear h30 hz hx
  go_enter Yba.func23, Yba.ntmps23
  go_wp2_with (go_at_call 30; refine HH.out.mono ?_; rintro en w1 ⟨v', rfl, hn, hg⟩)
  have HG := hide (And.intro hn hg)
  clear hn hg
  go_wp2
  go_ret
  exact ⟨v', rfl, HG.out.1, HG.out.2⟩

def wsOf (N : Int) (o : Nat) : Int := if o = 0 then lo N else if o = 1 then hi N else 0
theorem nt_norm {w : World} {B g cap k j : Nat} {cur : Array Value} {N : Int} (h : Rw w B g cap cur) (hk : k ≤ cap) (n0 : 0 ≤ N) (hw : ∀ o, o < k → cur[o]? = some (.int .u64 (wsOf N o))) (k1 : 1 ≤ k) (k2 : k = 1 → hi N = 0)
    (hj : j ≤ k) (hz : ∀ o, j ≤ o → o < k → wsOf N o = 0) (hn : 0 < j → wsOf N (j - 1) ≠ 0) : Nt w B (.slice (some ⟨g, 0, none⟩) j cap) N := by
  have hN : N = hi N * 18446744073709551616 + lo N := by unfold hi lo; omega
  have hl0 : 0 ≤ lo N := lo_0 N
  have hl1 : lo N ≤ 18446744073709551615 := lo_1 N
  have hh0 : 0 ≤ hi N := by unfold hi; omega
  match j, hj, hz, hn with
  | 0, hj, hz, hn =>
    have a0 := hz 0 (by omega) (by omega)
    have a1 : hi N = 0 := by
      by_cases hk1 : k = 1
      · exact k2 hk1
      · have := hz 1 (by omega) (by omega)
        simpa [wsOf] using this
    simp [wsOf] at a0
    have : N = 0 := by omega
    subst this
    exact nt_mk0 h
  | 1, hj, hz, hn =>
    have a0 := hn (by omega)
    have a1 : hi N = 0 := by
      by_cases hk1 : k = 1
      · exact k2 hk1
      · have := hz 1 (by omega) (by omega)
        simpa [wsOf] using this
    simp [wsOf] at a0
    have e : lo N = N := by omega
    have := hw 0 (by omega)
    simp [wsOf] at this
    exact nt_mk1 h (by rw [this, e]) (by omega) (by omega) (by omega)
  | 2, hj, hz, hn =>
    have a1 := hn (by omega)
    simp [wsOf] at a1
    have f0 := hw 0 (by omega)
    have f1 := hw 1 (by omega)
    simp [wsOf] at f0 f1
    exact nt_mk2 h f0 f1 (by omega) (by omega)
  | j + 3, hj, hz, hn =>
    have := hn (by omega)
    simp [wsOf] at this
theorem Eqv.undrew {w w' : World} {a : Addr} {v : Value} (h : Eqv (w.drew.setCell a v) w') : Eqv (w.setCell a v) w' := ⟨h.heap, h.os, h.tape, h.output⟩

theorem Rw.behind {w w' : World} {B g cap p o : Nat} {cur : Array Value} {v : Value} (h : Rw w B g cap cur) (e : Eqv (w.setCell ⟨p, o, none⟩ v) w') : ∃ cur', Rw w' B g cap cur' ∧ ∀ k, k ≠ o → cur'[k]? = cur[k]? := by
  by_cases hgp : g = p
  · subst hgp
    exact ⟨_, h.set e, fun k hk => set_get_other (Ne.symm hk)⟩
  · exact ⟨cur, h.other hgp e, fun k _ => rfl⟩

set_option maxHeartbeats 1000000 in
set_option maxRecDepth 100000 in
theorem add_11 (B nz : Nat) (zv : Value) (zs : List Value) (p cx q cy : Nat) (curx cury : Array Value) (X Y : Int) (w : World) (hB : B ≤ w.heap.size) (hz : w.ownsRow B 55 1 zv nz zs) (hcx : 1 ≤ cx) (hcy : 1 ≤ cy)
    (rx : Rw w B p cx curx) (g0 : curx[0]? = some (.int .u64 X)) (ry : Rw w B q cy cury) (g1 : cury[0]? = some (.int .u64 Y)) (x0 : 0 < X) (x1 : X < 18446744073709551616) (y0 : 0 < Y) (y1 : Y < 18446744073709551616) :
    Calls Yba.prog 23 #[zv, .slice (some ⟨p, 0, none⟩) 1 cx, .slice (some ⟨q, 0, none⟩) 1 cy] w fun e w' => Gives w B zv (X + Y) e w' := by
  have h31 := make_any B 2 nz zv zs w hB (.inr (.inl rfl)) hz
  have hvv := vv_add
  have wx : Wd X := ⟨by omega, by omega⟩
  have wy : Wd Y := ⟨by omega, by omega⟩
  have HH := hide (And.intro h31 (And.intro rx (And.intro g0 (And.intro ry (And.intro g1 (And.intro wx wy))))))
  clear h31 rx g0 ry g1 wx wy hz
  go_enter Yba.func23, Yba.ntmps23
  go_wp2_with (go_at_call 31; refine HH.out.1.mono ?_; rintro en w1 ⟨g, cap, cur, rfl, hr, hkc, hgr, hloc⟩)
  have rx1 := HH.out.2.1.kept hgr (by simp)
  have ry1 := HH.out.2.2.2.1.kept hgr (by simp)
  have hsz := hr.size
  have h17 := addvv1 g cap p cx q cy X Y (cur[0]'(by omega)) w1.drew HH.out.2.2.2.2.2.1 HH.out.2.2.2.2.2.2 (rx1.cell HH.out.2.2.1) (ry1.cell HH.out.2.2.2.2.1) (hr.cell (by simp)) (hr.frozen 0)
  have H17 := hide h17
  have HR := hide (And.intro hr (And.intro hgr hloc))
  clear h17 hr hgr hloc rx1 ry1
  have i1 : (1 : Int) ≤ (cap : Int) := by omega
  have i2 : (1 : Int) ≤ (cx : Int) := by omega
  have i3 : (1 : Int) ≤ (cy : Int) := by omega
  go_wp2_with fail
  go_region_held3 (fun w' => True) (first | trivial | assumption | (simp [go_sem, *]; done))
    (first | (go_at_call 17; refine H17.out.mono ?_; rintro en w2 ⟨rfl, he2⟩))
  have he2' := he2.undrew
  obtain ⟨hr, hgr, hloc⟩ := HR.out
  have hr2 := hr.set he2'
  have c1 : w2.cell? ⟨g, 1, none⟩ = some (cur[1]'(by omega)) := hr2.cell (by rw [set_get_other (by omega)]; simp)
  have f1 := hr2.frozen 1
  have hr3 := hr2.set (Eqv.refl (w2.setCell ⟨g, 1, none⟩ (.int .u64 (ahi X Y))))
  have hw3 : ∀ o, o < 2 → ((cur.setIfInBounds 0 (.int .u64 (alo X Y))).setIfInBounds 1 (.int .u64 (ahi X Y)))[o]? = some (.int .u64 (wsOf (X + Y) o)) := fun o ho => by
    match o, ho with
    | 0, _ => rw [set_get_other (by omega), set_get (by omega)]; rfl
    | 1, _ => rw [set_get (by simp; omega)]; rfl
  have h34 := norm_any g 2 cap (wsOf (X + Y)) (w2.setCell ⟨g, 1, none⟩ (.int .u64 (ahi X Y))) (by omega) hkc (fun o ho => hr3.cell (hw3 o ho))
  have hgr3 : w.grownBy (w2.setCell ⟨g, 1, none⟩ (.int .u64 (ahi X Y))) zv.ownBlock := made_row hloc hgr (he2'.grown.trans (Eqv.refl (w2.setCell ⟨g, 1, none⟩ (.int .u64 (ahi X Y)))).grown)
  have HF := hide (And.intro hr3 (And.intro hw3 (And.intro h34 hgr3)))
  clear he2 he2' hr hgr hloc hr2 hr3 hw3 h34 hgr3 HR H17 HH
  go_wp2_with (go_at_call 34; refine HF.out.2.2.1.mono ?_; rintro en w3 ⟨j, hj, rfl, hz, hn, rfl⟩)
  have HZ := hide (And.intro hz hn)
  clear hz hn
  go_wp2
  go_ret
  exact ⟨_, rfl, nt_norm HF.out.1 hkc (by omega) HF.out.2.1 (by omega) (by omega) hj HZ.out.1 HZ.out.2, HF.out.2.2.2⟩

theorem add_lo (X Y : Int) (y0 : 0 ≤ Y) : alo (lo X) Y = lo (X + Y) := by unfold alo lo; omega
theorem add_hi (X Y : Int) (x0 : 0 ≤ X) (x1 : X < 170141183460469231731687303715884105728) (y0 : 0 ≤ Y) (y1 : Y < 18446744073709551616) : alo (hi X) (ahi (lo X) Y) = hi (X + Y) := by unfold alo ahi lo hi; omega
theorem add_no (X Y : Int) (x0 : 0 ≤ X) (x1 : X < 170141183460469231731687303715884105728) (y0 : 0 ≤ Y) (y1 : Y < 18446744073709551616) : ahi (hi X) (ahi (lo X) Y) = 0 := by unfold ahi lo hi; omega
theorem hi_wd (X : Int) (x0 : 0 ≤ X) (x1 : X < 170141183460469231731687303715884105728) : Wd (hi X) := by unfold Wd hi; omega
theorem lo_wd (X : Int) : Wd (lo X) := ⟨lo_0 X, lo_1 X⟩

set_option maxHeartbeats 1000000 in
set_option maxRecDepth 100000 in
theorem add_21 (B nz : Nat) (zv : Value) (zs : List Value) (p cx q cy : Nat) (curx cury : Array Value) (X Y : Int) (w : World) (hB : B ≤ w.heap.size) (hz : w.ownsRow B 55 1 zv nz zs) (hcx : 2 ≤ cx) (hcy : 1 ≤ cy)
    (rx : Rw w B p cx curx) (g0 : curx[0]? = some (.int .u64 (lo X))) (g2 : curx[1]? = some (.int .u64 (hi X))) (ry : Rw w B q cy cury) (g1 : cury[0]? = some (.int .u64 Y)) (x0 : 18446744073709551616 ≤ X) (x1 : X < 170141183460469231731687303715884105728) (y0 : 0 < Y) (y1 : Y < 18446744073709551616) :
    Calls Yba.prog 23 #[zv, .slice (some ⟨p, 0, none⟩) 2 cx, .slice (some ⟨q, 0, none⟩) 1 cy] w fun e w' => Gives w B zv (X + Y) e w' := by
  have h31 := make_any B 3 nz zv zs w hB (.inr (.inr rfl)) hz
  have hvv := vv_add
  have wy : Wd Y := ⟨by omega, by omega⟩
  have HH := hide (And.intro h31 (And.intro rx (And.intro g0 (And.intro ry (And.intro g1 (And.intro wy g2))))))
  clear h31 rx g0 ry g1 g2 wy hz
  go_enter Yba.func23, Yba.ntmps23
  go_wp2_with (go_at_call 31; refine HH.out.1.mono ?_; rintro en w1 ⟨g, cap, cur, rfl, hr, hkc, hgr, hloc⟩)
  have rx1 := HH.out.2.1.kept hgr (by simp)
  have ry1 := HH.out.2.2.2.1.kept hgr (by simp)
  have hsz := hr.size
  have h17 := addvv1 g cap p cx q cy (lo X) Y (cur[0]'(by omega)) w1.drew (lo_wd X) HH.out.2.2.2.2.2.1 (rx1.cell HH.out.2.2.1) (ry1.cell HH.out.2.2.2.2.1) (hr.cell (by simp)) (hr.frozen 0)
  have H17 := hide h17
  have HR := hide (And.intro hr (And.intro hgr (And.intro hloc rx1)))
  clear h17 hr hgr hloc rx1 ry1
  have i1 : (1 : Int) ≤ (cap : Int) := by omega
  have i2 : (1 : Int) ≤ (cx : Int) := by omega
  have i3 : (1 : Int) ≤ (cy : Int) := by omega
  have i4 : (2 : Int) ≤ (cap : Int) := by omega
  have i5 : (2 : Int) ≤ (cx : Int) := by omega
  have i6 : ¬ cap = 1 := by omega
  have i7 : ¬ cx = 1 := by omega
  go_wp2_with fail
  go_region_held3 (fun w' => True) (first | trivial | assumption | (simp [go_sem, *]; done))
    (first | (go_at_call 17; refine H17.out.mono ?_; rintro en w2 ⟨rfl, he2⟩))
  have he2' := he2.undrew
  obtain ⟨hr, hgr, hloc, rx1⟩ := HR.out
  have hr2 := hr.set he2'
  obtain ⟨curx2, rx2, hrx2⟩ := rx1.behind he2'
  have h33 := addvw1 g (cap - 1) p (cx - 1) (hi X) (ahi (lo X) Y) _ _ w2.drew (hi_wd X (by omega) x1) (by have := ahi_01 (lo_wd X) HH.out.2.2.2.2.2.1; exact ⟨by omega, by omega⟩) (by omega) (by omega) (add_no X Y (by omega) x1 (by omega) y1) hr2.heap rx2.heap ((hrx2 1 (by omega)).trans HH.out.2.2.2.2.2.2) (by simp; omega)
  have HF := hide (And.intro hr2 (And.intro he2' (And.intro hgr (And.intro hloc h33))))
  clear he2 he2' hr hgr hloc hr2 rx1 rx2 hrx2 h33 HR H17 HH
  go_wp2_with fail
  go_region_held3 (fun w' => True) (first | trivial | assumption | (simp [go_sem, *]; done))
    (first | (go_at_call 33; refine HF.out.2.2.2.2.mono ?_; rintro en w3 ⟨rfl, he3⟩))
  obtain ⟨hr2, he2', hgr, hloc, _⟩ := HF.out
  have he3' := he3.undrew
  have hr3 := hr2.set he3'
  have c1 : w3.cell? ⟨g, 2, none⟩ = some (cur[2]'(by omega)) := hr3.cell (by rw [set_get_other (by omega), set_get_other (by omega)]; simp)
  have f1 := hr3.frozen 2
  have hr4 := hr3.set (Eqv.refl (w3.setCell ⟨g, 2, none⟩ (.int .u64 0)))
  have hw4 : ∀ o, o < 3 → (((cur.setIfInBounds 0 (.int .u64 (alo (lo X) Y))).setIfInBounds 1 (.int .u64 (alo (hi X) (ahi (lo X) Y)))).setIfInBounds 2 (.int .u64 0))[o]? = some (.int .u64 (wsOf (X + Y) o)) := fun o ho => by
    match o, ho with
    | 0, _ => rw [set_get_other (by omega), set_get_other (by omega), set_get (by omega), add_lo X Y (by omega)]; rfl
    | 1, _ => rw [set_get_other (by omega), set_get (by simp; omega), add_hi X Y (by omega) x1 (by omega) y1]; rfl
    | 2, _ => rw [set_get (by simp; omega)]; rfl
  have h34 := norm_any g 3 cap (wsOf (X + Y)) (w3.setCell ⟨g, 2, none⟩ (.int .u64 0)) (by omega) hkc (fun o ho => hr4.cell (hw4 o ho))
  have hgr3 : w.grownBy (w3.setCell ⟨g, 2, none⟩ (.int .u64 0)) zv.ownBlock := made_row hloc hgr ((he2'.grown.trans he3'.grown).trans (Eqv.refl (w3.setCell ⟨g, 2, none⟩ (.int .u64 0))).grown)
  have HE := hide (And.intro hr4 (And.intro hw4 (And.intro h34 hgr3)))
  clear he2' he3 he3' hgr hloc hr2 hr3 hr4 hw4 h34 hgr3 HF
  go_wp2_with (go_at_call 34; refine HE.out.2.2.1.mono ?_; rintro en w4 ⟨j, hj, rfl, hz, hn, rfl⟩)
  have HZ := hide (And.intro hz hn)
  clear hz hn
  go_wp2
  go_ret
  exact ⟨_, rfl, nt_norm HE.out.1 hkc (by omega) HE.out.2.1 (by omega) (by omega) hj HZ.out.1 HZ.out.2, HE.out.2.2.2⟩
end Go.Proofs.Ybulkbabq
