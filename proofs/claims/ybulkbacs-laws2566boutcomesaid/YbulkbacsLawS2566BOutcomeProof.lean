/- The row of the law, after the frame that the kit's tool wrote for this function; the walk lies in the texts that are imported. -/
import Derived.Test.YbulkbacsOutcomeNo
import Derived.Test.YbulkbacsOutcomeSn
import Derived.Test.YbulkbacsRows
import Derived.WalkKit
import Derived.ProofKit
import Derived.OpenShut
import Derived.ShutString
import Derived.ChangeOld
import Derived.Below
namespace Go.Proofs.Ybulkbacs.lawS2566BOutcome
open Go.ChangeShapes Go.WideShapes Go.ChangeAt Go.RowKit
open Go.ChangeMaps (open_string shut_string)
set_option linter.unusedVariables false

theorem own : ownKnob Yba.prog.godebug = none := by kernel_rfl
theorem laidOut : laidOutB Yba.prog = true := by kernel_rfl

theorem came_of {w : World} {a : Option Addr} {len cap : Nat} {zs : List Int} (h : IsRow .i64 w a len cap zs) : (zs.take len).length = len ∧ Came w a len (zs.take len) := by
  by_cases hp : 0 < len
  · obtain ⟨b, off, rfl, hb, hc, hl, _⟩ := h.some hp
    exact ⟨hl, .inr ⟨_, rfl, .inr hb, fun j hj => by rw [add_plain]; exact hc j hj⟩⟩
  · have h0 : len = 0 := by omega
    subst h0
    refine ⟨by simp, ?_⟩
    cases a with
    | none => exact .inl ⟨rfl, rfl⟩
    | some x => exact .inr ⟨x, rfl, .inl rfl, fun j hj => by omega⟩

/-! ### STEP 1: THE WALK: the Go text returns true, AND WRITES NOTHING THAT WAS THERE: 'Below w.heap.size w w'' (Derived/Below.lean: '.refl', '.alloc', '.drew', '.setCell' at a new block, '.trans'). Open each 'IsRow' by 'rcases' AHEAD of 'go_enter'; part every test ahead of the walk. -/
theorem walk (a0 : Int) (a1 : Int) (a2 : Bool) (a3 : Bool) (a4 : Bool) (a5 : Int) (a6 : Int) (a7 : Bool) (a8 : Int) (a9 : Option Addr) (len9 cap9 : Nat) (z9 : List Int) (a10 : Option Addr) (len10 cap10 : Nat) (z10 : List Int) (w : World) (w0 : (Lit.int .u8 a0).wf = true) (w1 : (Lit.int .i64 a1).wf = true) (w5 : (Lit.int .i64 a5).wf = true) (w6 : (Lit.int .i64 a6).wf = true) (w8 : (Lit.int .u8 a8).wf = true) (w9 : IsRow .i64 w a9 len9 cap9 z9) (w10 : IsRow .i64 w a10 len10 cap10 z10) :
    Calls Yba.prog 3 #[.int .u8 a0, .int .i64 a1, .bool a2, .bool a3, .bool a4, .int .i64 a5, .int .i64 a6, .bool a7, .int .u8 a8, .slice a9 len9 cap9, .slice a10 len10 cap10] w fun e w' => e = .returned (.bool true) ∧ Below w.heap.size w w' := by
  by_cases h9 : 1024 < len9
  · have d2 : decide ((1024 : Int) < (len9 : Int)) = true := by simp; omega
    go_enter Yba.func3, Yba.ntmps3
    go_wp2
    go_ret
    exact ⟨rfl, Below.refl _ _⟩
  by_cases h10 : 1024 < len10
  · have d2 : decide ((1024 : Int) < (len9 : Int)) = false := by simp; omega
    have d3 : decide ((1024 : Int) < (len10 : Int)) = true := by simp; omega
    go_enter Yba.func3, Yba.ntmps3
    go_wp2
    go_ret
    exact ⟨rfl, Below.refl _ _⟩
  have hs := bounds_u8 w8
  have hnd := (bounds_i64 w5).2
  cases a7 with
  | false =>
    rcases kind_cases a0 with hk | hk | hk | hk | hk | hk
    · exact law_no_u a0 a1 a2 a3 a4 a5 a6 a8 a9 len9 cap9 a10 len10 cap10 w (by omega) (by omega) hs.1 hs.2 hnd hk
    · exact law_no_q a0 a1 a2 a3 a4 a5 a6 a8 a9 len9 cap9 a10 len10 cap10 w (by omega) (by omega) hs.1 hs.2 hnd hk
    · exact law_no_a a0 a1 a2 a3 a4 a5 a6 a8 a9 len9 cap9 a10 len10 cap10 w (by omega) (by omega) hs.1 hs.2 hnd hk
    · exact law_no_cr a0 a1 a2 a3 a4 a5 a6 a8 a9 len9 cap9 a10 len10 cap10 w (by omega) (by omega) hs.1 hs.2 hnd hk
    · exact law_no_c a0 a1 a2 a3 a4 a5 a6 a8 a9 len9 cap9 a10 len10 cap10 w (by omega) (by omega) hs.1 hs.2 hnd hk
    · exact law_no_o a0 a1 a2 a3 a4 a5 a6 a8 a9 len9 cap9 a10 len10 cap10 w (by omega) (by omega) hs.1 hs.2 hnd hk
  | true =>
    obtain ⟨hl9, hc9⟩ := came_of w9
    obtain ⟨hl10, hc10⟩ := came_of w10
    rcases kind_cases a0 with hk | hk | hk | hk | hk | hk
    · exact law_sn_u a0 a1 a2 a3 a4 a5 a6 a8 a9 len9 cap9 a10 len10 cap10 _ _ w (by omega) (by omega) hs.1 hs.2 hl9 hl10 hc9 hc10 hk
    · exact law_sn_q a0 a1 a2 a3 a4 a5 a6 a8 a9 len9 cap9 a10 len10 cap10 _ _ w (by omega) (by omega) hs.1 hs.2 hl9 hl10 hc9 hc10 hk
    · exact law_sn_a a0 a1 a2 a3 a4 a5 a6 a8 a9 len9 cap9 a10 len10 cap10 _ _ w (by omega) (by omega) hs.1 hs.2 hl9 hl10 hc9 hc10 hk
    · exact law_sn_cr a0 a1 a2 a3 a4 a5 a6 a8 a9 len9 cap9 a10 len10 cap10 _ _ w (by omega) (by omega) hs.1 hs.2 hl9 hl10 hc9 hc10 hk
    · exact law_sn_c a0 a1 a2 a3 a4 a5 a6 a8 a9 len9 cap9 a10 len10 cap10 _ _ w (by omega) (by omega) hs.1 hs.2 hl9 hl10 hc9 hc10 hk
    · exact law_sn_o a0 a1 a2 a3 a4 a5 a6 a8 a9 len9 cap9 a10 len10 cap10 _ _ w (by omega) (by omega) hs.1 hs.2 hl9 hl10 hc9 hc10 hk

/-! ### THE ROW's STEP: WRITTEN OUT: LEAVE IT -/
set_option maxRecDepth 100000 in
theorem lifted (os : Os) (started : os.Started) (H : Type) (enc : TypeId × Value → H) :
    ReturnsInHanded {} Yba.checked os 3 .any (Rows.lawS2566BOutcomeSpec.pre6 enc Yba.prog Yba.f3 Rows.lawS2566BOutcomeRow.domain false) (Rows.lawS2566BOutcomeSpec.post enc Yba.prog Yba.f3 false true false false) := by
  refine returnsInHanded_of_change (C := Yba.checked) own started (by kernel_rfl) Yba.func3
    (ChangeSpec.witness6 (enc := enc) (C := Yba.checked) false ⟨#[], #[.int .u8 0, .int .i64 0, .bool false, .bool false, .bool false, .int .i64 0, .int .i64 0, .bool false, .int .u8 0, .slice none 0 0, .slice none 0 0], []⟩ 8 (by kernel_rfl) (by kernel_rfl) (by kernel_rfl) (by kernel_rfl)) ?_
  intro W base args ds gs before hval0 hW hcnd _
  have hval : ∀ (j : Nat) t v, Yba.f3.params[j]? = some t → args[j]? = some v → Value.okWide Yba.prog W .any base t v := hval0
  have hW' := hW
  obtain ⟨p, q, hA0, hV, rfl, hfz, hnd⟩ := hW
  have hA : DataW.TrodAll enc Yba.prog W 0 (fun _ => true) true Yba.f3.params.toList args.toList ds p := hA0
  rw [Yba.params3] at hA hval
  obtain ⟨v0, vs0, d0, ds0, p0, q0, hargs, rfl, rfl, h0, r0⟩ := trodAll_cons hA
  obtain ⟨v1, vs1, d1, ds1, p1, q1, rfl, rfl, rfl, h1, r1⟩ := trodAll_cons r0
  obtain ⟨v2, vs2, d2, ds2, p2, q2, rfl, rfl, rfl, h2, r2⟩ := trodAll_cons r1
  obtain ⟨v3, vs3, d3, ds3, p3, q3, rfl, rfl, rfl, h3, r3⟩ := trodAll_cons r2
  obtain ⟨v4, vs4, d4, ds4, p4, q4, rfl, rfl, rfl, h4, r4⟩ := trodAll_cons r3
  obtain ⟨v5, vs5, d5, ds5, p5, q5, rfl, rfl, rfl, h5, r5⟩ := trodAll_cons r4
  obtain ⟨v6, vs6, d6, ds6, p6, q6, rfl, rfl, rfl, h6, r6⟩ := trodAll_cons r5
  obtain ⟨v7, vs7, d7, ds7, p7, q7, rfl, rfl, rfl, h7, r7⟩ := trodAll_cons r6
  obtain ⟨v8, vs8, d8, ds8, p8, q8, rfl, rfl, rfl, h8, r8⟩ := trodAll_cons r7
  obtain ⟨v9, vs9, d9, ds9, p9, q9, rfl, rfl, rfl, h9, r9⟩ := trodAll_cons r8
  obtain ⟨v10, vs10, d10, ds10, p10, q10, rfl, rfl, rfl, h10, r10⟩ := trodAll_cons r9
  obtain ⟨rfl, rfl, rfl⟩ := trodAll_nil r10
  obtain rfl : args = #[v0, v1, v2, v3, v4, v5, v6, v7, v8, v9, v10] := by cases args; simp_all
  obtain ⟨rfl, rfl⟩ := trodVars_none hV
  obtain ⟨a0, rfl, rfl, rfl, w0⟩ := open_int Yba.underlying5 (hval 0 5 v0 rfl rfl) h0
  obtain ⟨a1, rfl, rfl, rfl, w1⟩ := open_int Yba.underlying3 (hval 1 3 v1 rfl rfl) h1
  obtain ⟨a2, rfl, rfl, rfl⟩ := open_bool Yba.underlying4 (hval 2 4 v2 rfl rfl) h2
  obtain ⟨a3, rfl, rfl, rfl⟩ := open_bool Yba.underlying4 (hval 3 4 v3 rfl rfl) h3
  obtain ⟨a4, rfl, rfl, rfl⟩ := open_bool Yba.underlying4 (hval 4 4 v4 rfl rfl) h4
  obtain ⟨a5, rfl, rfl, rfl, w5⟩ := open_int Yba.underlying2 (hval 5 2 v5 rfl rfl) h5
  obtain ⟨a6, rfl, rfl, rfl, w6⟩ := open_int Yba.underlying2 (hval 6 2 v6 rfl rfl) h6
  obtain ⟨a7, rfl, rfl, rfl⟩ := open_bool Yba.underlying4 (hval 7 4 v7 rfl rfl) h7
  obtain ⟨a8, rfl, rfl, rfl, w8⟩ := open_int Yba.underlying5 (hval 8 5 v8 rfl rfl) h8
  obtain ⟨a9, len9, cap9, rfl⟩ := okWide_slice Yba.underlying22 (hval 9 22 v9 rfl rfl)
  have k9 := h9
  have lt9 : ∀ x ∈ p9, x.block < W.heap.size := by obtain ⟨m, hm⟩ := k9; exact DataW.trod_lt m _ _ _ hm
  obtain ⟨z9, w9⟩ : ∃ zs, IsRow .i64 W a9 len9 cap9 zs := by
    obtain ⟨fuel, hf⟩ := h9
    rcases open_ints Yba.underlying22 Yba.underlying2 (by kernel_rfl) hf with ⟨hcs, _⟩ | ⟨x, l, c, zs, hcs, _, hl, hm, hz, _, hcell, hwz⟩
    · simp [Value.cells] at hcs
      obtain ⟨rfl, rfl, rfl⟩ := hcs
      exact ⟨[], .inl ⟨rfl, rfl, rfl, rfl⟩⟩
    · simp [Value.cells] at hcs
      obtain ⟨rfl, rfl, rfl⟩ := hcs
      exact ⟨zs, .inr ⟨_, rfl, hl, hm, by simpa using hz, hcell, hwz⟩⟩
  obtain ⟨a10, len10, cap10, rfl⟩ := okWide_slice Yba.underlying22 (hval 10 22 v10 rfl rfl)
  have k10 := h10
  have lt10 : ∀ x ∈ p10, x.block < W.heap.size := by obtain ⟨m, hm⟩ := k10; exact DataW.trod_lt m _ _ _ hm
  obtain ⟨z10, w10⟩ : ∃ zs, IsRow .i64 W a10 len10 cap10 zs := by
    obtain ⟨fuel, hf⟩ := h10
    rcases open_ints Yba.underlying22 Yba.underlying2 (by kernel_rfl) hf with ⟨hcs, _⟩ | ⟨x, l, c, zs, hcs, _, hl, hm, hz, _, hcell, hwz⟩
    · simp [Value.cells] at hcs
      obtain ⟨rfl, rfl, rfl⟩ := hcs
      exact ⟨[], .inl ⟨rfl, rfl, rfl, rfl⟩⟩
    · simp [Value.cells] at hcs
      obtain ⟨rfl, rfl, rfl⟩ := hcs
      exact ⟨zs, .inr ⟨_, rfl, hl, hm, by simpa using hz, hcell, hwz⟩⟩
  clear hA0 hval0
  refine (walk a0 a1 a2 a3 a4 a5 a6 a7 a8 a9 len9 cap9 z9 a10 len10 cap10 z10 W w0 w1 w5 w6 w8 w9 w10).mono fun e W' ⟨he, bel⟩ => ?_
  subst he
  exact ⟨_, rfl, _, _, _, [], _, [], hW', trodAll_mk1 (shut_bool Yba.underlying4 _), (trodAll_cons_mk (shut_int Yba.underlying5 w0) (trodAll_cons_mk (shut_int Yba.underlying3 w1) (trodAll_cons_mk (shut_bool Yba.underlying4 _) (trodAll_cons_mk (shut_bool Yba.underlying4 _) (trodAll_cons_mk (shut_bool Yba.underlying4 _) (trodAll_cons_mk (shut_int Yba.underlying2 w5) (trodAll_cons_mk (shut_int Yba.underlying2 w6) (trodAll_cons_mk (shut_bool Yba.underlying4 _) (trodAll_cons_mk (shut_int Yba.underlying5 w8) (trodAll_cons_mk (Below.trod laidOut (by kernel_rfl) (of_decide_eq_true (by kernel_rfl)) k9 bel lt9) (trodAll_cons_mk (Below.trod laidOut (by kernel_rfl) (of_decide_eq_true (by kernel_rfl)) k10 bel lt10) trodAll_mk0))))))))))), rfl, bel.frame _, fun h => by cases h⟩

theorem over : Rows.lawS2566BOutcomeRow.holds Yba.pinned (OpenSpec.ofChange Rows.lawS2566BOutcomeSpec) :=
  OpenClaim.holds_of_wide 3 Yba.f3 rfl rfl rfl rfl rfl rfl rfl ⟨rfl, rfl, rfl, rfl, rfl⟩ rfl rfl rfl rfl rfl (by kernel_rfl) Yba.func3 (by kernel_rfl)
    (of_decide_eq_true (by kernel_rfl)) (by unfold Func.isWrapper; first | (rw [if_pos (by decide +kernel)]; kernel_rfl) | (rw [if_neg (by decide +kernel)]; exact ⟨rfl, rfl⟩))
    (fun os started H enc _ => lifted os started H enc)

/-- ████ THE STATEMENT ████ -/
theorem proved : Rows.LawS2566BOutcomeSaid := over
#print axioms proved
end Go.Proofs.Ybulkbacs.lawS2566BOutcome
