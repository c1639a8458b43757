import Derived.Test.YbulkbabqFmtCards
import Derived.Test.YbulkbabqFmtCore
import Derived.ProofKit
import Derived.OpenShut
import Derived.ChangeSlices
import Derived.ChangeSame
import Derived.ChangeMaps5
import Derived.JoinedOf
import Derived.Carry
import Derived.Stop.JoinedAt
import Derived.Stop.Texts
import Derived.Stop.JoinedTold
import Derived.SizedLaws
import Derived.SevenToldRow
import Derived.Deep.SlicePairs
namespace Go.Proofs.YbulkbabqFmt.lawS2564AModel
open Go.ChangeShapes Go.WideShapes Go.ChangeAt Go.RowKit Go.Kit
open Go.Extern.Stop Go.Stop Go.Extern
set_option linter.unusedVariables false

theorem own : ownKnob Ybaf.prog.godebug = none := by kernel_rfl
theorem laidOut : laidOutB Ybaf.pinned.checked.prog = true := by kernel_rfl

/-- A slice of bytes that came in. -/
def Bytes (w : World) (a : Option Addr) (n : Nat) (ss : List Int) : Prop :=
  ∀ j, j < n → ∃ b off, a = some ⟨b, off, none⟩ ∧ b < w.heap.size ∧ w.cell? ⟨b, off + j, none⟩ = some (.int .u8 (ss.getD j 0)) ∧ 0 ≤ ss.getD j 0 ∧ ss.getD j 0 ≤ 255
/-- A slice of entries that came in. -/
def Ents (w : World) (a : Option Addr) (m : Nat) (H C : Nat → Int) : Prop :=
  ∀ j, j < m → ∃ b off, a = some ⟨b, off, none⟩ ∧ b < w.heap.size ∧ w.cell? ⟨b, off + j * 2, none⟩ = some (.int .u8 (H j)) ∧ w.cell? ⟨b, off + j * 2 + 1, none⟩ = some (.int .u64 (C j)) ∧ 0 ≤ H j ∧ H j ≤ 255

theorem walk (a0 a1 : Option Addr) (n c0 m c1 : Nat) (ss : List Int) (H C : Nat → Int) (w : World) (hC : ∀ j, 0 ≤ C j ∧ C j ≤ 18446744073709551615) (h0 : Bytes w a0 n ss) (h1 : Ents w a1 m H C) :
    Calls Ybaf.prog 3 #[.slice a0 n c0, .slice a1 m c1] w fun e w' => e = .returned (.bool true) ∧ Below w.heap.size w w' := by
  by_cases g0 : 256 < n
  · have d0 : decide ((256 : Int) < (n : Int)) = true := by simp; omega
    clear h0 h1 hC
    go_enter Ybaf.func3, Ybaf.ntmps3
    go_wp2
    go_ret
    exact ⟨rfl, Below.refl _ _⟩
  by_cases g1 : 1024 < m
  · have d0 : decide ((256 : Int) < (n : Int)) = false := by simp; omega
    have d1 : decide ((1024 : Int) < (m : Int)) = true := by simp; omega
    clear h0 h1 hC
    go_enter Ybaf.func3, Ybaf.ntmps3
    go_wp2
    go_ret
    exact ⟨rfl, Below.refl _ _⟩
  by_cases g2 : n = 0
  · subst g2
    exact core_zero a0 a1 c0 m c1 w (by omega)
  · exact core a0 a1 n c0 m c1 ss H C w (by omega) (by omega) (by omega) hC h0 h1

theorem plain_addr {w : World} {x : Addr} {v : Value} (h : w.cell? x = some v) : ∃ b off, x = ⟨b, off, none⟩ ∧ b < w.heap.size := by
  obtain ⟨b, off, spot⟩ := x
  have hs : spot = none := by simpa using World.cell?_spot h
  subst hs
  exact ⟨b, off, rfl, cell_lt h⟩

set_option maxRecDepth 100000 in
theorem lifted (os : Os) (started : os.Started) (H : Type) (enc : TypeId × Value → H) :
    ReturnsInTold none {} Ybaf.checked os 3 .any Input.okWide ((OpenSpec.ofChange Rows.lawS2564AModelSpec).preRow enc Ybaf.prog Ybaf.f3 [] false []) (fun F => ((OpenSpec.ofChange Rows.lawS2564AModelSpec).at F).post enc Ybaf.prog Ybaf.f3 false true false false) (aloneAtReturn Ybaf.prog) nothingAlways := by
  refine returnsInTold_of_row (C := Ybaf.checked) (s := OpenSpec.ofChange Rows.lawS2564AModelSpec) (by kernel_rfl) own started (by kernel_rfl) Ybaf.func3
    (OpenSpec.witness_stopped (enc := enc) (C := Ybaf.checked) false ⟨#[], #[.slice none 0 0, .slice none 0 0], []⟩ 8 (by kernel_rfl) (by kernel_rfl) (by kernel_rfl) (by kernel_rfl)) ?_
  intro F W base args ds gs before _ hF hval0 hW _ _ hsz _ _
  have hval : ∀ (j : Nat) t v, Ybaf.f3.params[j]? = some t → args[j]? = some v → Value.okWide Ybaf.prog W .any base t v := hval0
  have hW' := hW
  obtain ⟨p, q, hA0, hV, rfl, _, _⟩ := hW
  have hA : DataW.TrodAll enc Ybaf.prog W 0 (fun _ => true) true Ybaf.f3.params.toList args.toList ds p := hA0
  rw [Ybaf.params3] at hA hval
  obtain ⟨v0, v1, d0, d1, p0, p1, rfl, rfl, rfl, h0, h1⟩ := trodAll_two hA
  obtain ⟨rfl, rfl⟩ := trodVars_none hV
  obtain ⟨a0, len0, cap0, rfl⟩ := okWide_slice Ybaf.underlying22 (hval 0 22 v0 rfl rfl)
  obtain ⟨a1, len1, cap1, rfl⟩ := okWide_slice Ybaf.underlying23 (hval 1 23 v1 rfl rfl)
  have k0 := h0
  have k1 := h1
  have lt0 : ∀ x ∈ p0, x.block < W.heap.size := by obtain ⟨m, hm⟩ := k0; exact DataW.trod_lt m _ _ _ hm
  have lt1 : ∀ x ∈ p1, x.block < W.heap.size := by obtain ⟨m, hm⟩ := k1; exact DataW.trod_lt m _ _ _ hm
  obtain ⟨ss, hB⟩ : ∃ ss, Bytes W a0 len0 ss := by
    obtain ⟨fuel, hf⟩ := h0
    rcases open_ints Ybaf.underlying22 Ybaf.underlying5 (by kernel_rfl) hf with ⟨hcs, _⟩ | ⟨x, l, c, zs, hcs, _, hl, hm, hz, _, hcell, hwz⟩
    · simp [Value.cells] at hcs
      obtain ⟨rfl, rfl, rfl⟩ := hcs
      exact ⟨[], fun j hj => by omega⟩
    · simp [Value.cells] at hcs
      obtain ⟨rfl, rfl, rfl⟩ := hcs
      simp only [if_true] at hz
      refine ⟨zs, fun j hj => ?_⟩
      obtain ⟨b, off, rfl, hb⟩ := plain_addr (x := x) (by simpa [Addr.add] using hcell 0 (by omega))
      have hm : zs.getD j 0 ∈ zs := by
        rw [List.getD_eq_getElem?_getD, List.getElem?_eq_getElem (by omega)]
        exact List.getElem_mem _
      have hb2 := bounds_u8 (hwz _ hm)
      exact ⟨b, off, rfl, hb, by rw [← add_plain]; exact hcell j (by omega), hb2.1, hb2.2⟩
  obtain ⟨Hs, Cs, hCs, hE⟩ : ∃ Hs Cs : Nat → Int, (∀ j, 0 ≤ Cs j ∧ Cs j ≤ 18446744073709551615) ∧ Ents W a1 len1 Hs Cs := by
    obtain ⟨fuel, hf⟩ := h1
    rcases Deep.open_slice_pairs Ybaf.underlying23 Ybaf.underlying74 (by kernel_rfl) rfl rfl (by kernel_rfl) (by kernel_rfl) hf with ⟨hcs, _⟩ | ⟨x, l, c, m, nn, V0, V1, D0, D1, P0, P1, hcs, _, hl, hm, hmm, _, hx⟩
    · simp [Value.cells] at hcs
      obtain ⟨rfl, rfl, rfl⟩ := hcs
      exact ⟨fun _ => 0, fun _ => 0, fun j => ⟨by simp, by simp⟩, fun j hj => by omega⟩
    · simp [Value.cells] at hcs
      obtain ⟨rfl, rfl, rfl⟩ := hcs
      simp only [if_true] at hmm
      have each : ∀ i, i < len1 → ∃ q : Int × Int, V0 i = .int .u8 q.1 ∧ V1 i = .int .u64 q.2 ∧ 0 ≤ q.1 ∧ q.1 ≤ 255 ∧ 0 ≤ q.2 ∧ q.2 ≤ 18446744073709551615 := by
        intro i hi
        obtain ⟨_, _, t0, t1⟩ := hx i (by omega)
        obtain ⟨x0, e0, _, w0⟩ := DataW.trod_int Ybaf.underlying5 t0
        obtain ⟨x1, e1, _, w1⟩ := DataW.trod_int Ybaf.underlying29 t1
        simp at e0 e1
        have b0 := bounds_u8 w0
        have b1 := bounds_u64 w1
        exact ⟨(x0, x1), e0, e1, b0.1, b0.2, b1.1, b1.2⟩
      obtain ⟨f, hf'⟩ := Deep.choose_lt each
      refine ⟨fun i => (f i).1, fun i => if i < len1 then (f i).2 else 0, fun j => ?_, fun j hj => ?_⟩
      · show 0 ≤ (if j < len1 then (f j).2 else 0) ∧ (if j < len1 then (f j).2 else 0) ≤ 18446744073709551615
        split
        · rename_i hj
          exact ⟨(hf' j hj).2.2.2.2.1, (hf' j hj).2.2.2.2.2⟩
        · omega
      · obtain ⟨b, off, rfl, hb⟩ := plain_addr (x := x) (by simpa [Addr.add] using (hx 0 (by omega)).1)
        obtain ⟨c0, c1, _, _⟩ := hx j (by omega)
        have fj := hf' j hj
        refine ⟨b, off, rfl, hb, ?_, ?_, fj.2.2.1, fj.2.2.2.1⟩
        · rw [← add_plain, c0, fj.1]
        · rw [Nat.add_assoc, ← add_plain, c1, fj.2.1]
          simp [hj]
  clear hA0 hval0
  refine (walk a0 a1 len0 cap0 len1 cap1 ss Hs Cs W hCs hB hE).mono fun e W' ⟨he, bel⟩ => ?_
  subst he
  exact ⟨_, rfl, _, _, _, [], _, [], hW', trodAll_mk1 (shut_bool Ybaf.underlying4 _), trodAll_mk2 (Below.trod laidOut (by kernel_rfl) (of_decide_eq_true (by kernel_rfl)) k0 bel lt0) (Below.trod laidOut (by kernel_rfl) (of_decide_eq_true (by kernel_rfl)) k1 bel lt1), rfl, bel.frame _, fun h => by cases h⟩

theorem stops : Ybaf.pinned.checked.prog.stops = ["fmt.errorf", "fmt.Sprintf"] := by kernel_rfl
theorem stopKnobs : Ybaf.pinned.checked.prog.stopKnobs = [] := by kernel_rfl
theorem quiet (os : Os) : Stop.quiet Ybaf.pinned.checked.prog os := by
  intro k hk
  rw [stopKnobs] at hk
  cases hk

theorem proved : Rows.LawS2564AModelToldSaid :=
  Claim7.holds_of_told_any 3 Ybaf.f3 "fmt.errorf" ["fmt.Sprintf"] [] _ _ _ (by kernel_rfl) rfl rfl rfl laidOut (by kernel_rfl) rfl ⟨rfl, rfl, rfl, rfl, rfl, rfl, rfl⟩ rfl rfl (by kernel_rfl) (by kernel_rfl) Ybaf.func3 (by kernel_rfl)
    (of_decide_eq_true (by kernel_rfl)) (by unfold Func.isWrapper; first | (rw [if_pos (by decide +kernel)]; kernel_rfl) | (rw [if_neg (by decide +kernel)]; exact ⟨rfl, rfl⟩)) stops.symm rfl stopKnobs.symm (by kernel_rfl)
    (by kernel_rfl) (by kernel_rfl) (by kernel_rfl) (by kernel_rfl) (by kernel_rfl) (by kernel_rfl) (by kernel_rfl) (by kernel_rfl) (by kernel_rfl) rfl (by kernel_rfl) rfl rfl
    rfl rfl
    rfl (by kernel_rfl) (by kernel_rfl) (by kernel_rfl) (by decide) (by kernel_rfl)
    (OpenClaim.moreEntering_of (by kernel_rfl) (by kernel_rfl) (by kernel_rfl) (by kernel_rfl) (by kernel_rfl) (by kernel_rfl) (by kernel_rfl) (by kernel_rfl) (by kernel_rfl) (by kernel_rfl))
    ⟨_, WideRow.started_initial, quiet _⟩
    (fun os started _ H enc _ => lifted os started H enc)
#print axioms proved
end Go.Proofs.YbulkbabqFmt.lawS2564AModel
