import Derived.Test.YbulkbabqNone
import Derived.Test.YbulkbabqRows
import Derived.WalkKit
import Derived.ProofKit
import Derived.OpenShut
import Derived.ShutString
import Derived.ChangeOld
import Derived.Below
import Derived.ChangeSame
import Derived.Deep.Slices
import Derived.Deep.SlicePairs
namespace Go.Proofs.Ybulkbabq
open Go.ChangeShapes Go.WideShapes Go.ChangeAt Go.RowKit
set_option linter.unusedVariables false
theorem cells24 : Yba.prog.cellsOf 24 = 5 := by kernel_rfl
theorem cells2 : Yba.prog.cellsOf 2 = 1 := by kernel_rfl
theorem plain_addr {w : World} {x : Addr} {v : Value} (h : w.cell? x = some v) : ∃ b off, x = ⟨b, off, none⟩ ∧ b < w.heap.size := by
  obtain ⟨b, off, spot⟩ := x
  have hs : spot = none := by simpa using World.cell?_spot h
  subst hs
  exact ⟨b, off, rfl, cell_lt h⟩
theorem came_of {H : Type} {enc : TypeId × Value → H} {W : World} {a : Option Addr} {n c : Nat} {d : DataW H} {p : List MemPlace}
    (h : DataW.Trod enc Yba.prog W 0 (fun _ => true) true 22 (.slice a n c) d p) :
    ∃ F T C E S : Nat → Int, Came W a n F T C E S ∧ Rng n F ∧ Rng n T ∧ Rng n C ∧ Rng n E ∧ Rng n S := by
  have z : ∀ m, m = 0 → Rng m (fun _ => 0) := fun m hm => ⟨fun i hi => by omega, fun i hi => by omega⟩
  obtain ⟨fuel, hf⟩ := h
  rcases Deep.open_slice Yba.underlying22 hf with ⟨hcs, _⟩ | ⟨x, l, c', m, nn, D, Pl, hcs, _, hl, hm, hmm, _, hx⟩
  · simp [Value.cells] at hcs
    obtain ⟨rfl, rfl, rfl⟩ := hcs
    exact ⟨fun _ => 0, fun _ => 0, fun _ => 0, fun _ => 0, fun _ => 0, fun j hj => by omega, z _ rfl, z _ rfl, z _ rfl, z _ rfl, z _ rfl⟩
  · simp [Value.cells] at hcs
    obtain ⟨rfl, rfl, rfl⟩ := hcs
    simp only [if_true] at hmm
    have each : ∀ i, i < n → ∃ q : Int × Int × Int × Int × Int,
        (W.cell? (x.add (i * 5)) = some (.int .i64 q.1) ∧ W.cell? (x.add (i * 5 + 1)) = some (.int .i64 q.2.1) ∧ W.cell? (x.add (i * 5 + 2)) = some (.int .i64 q.2.2.1) ∧ W.cell? (x.add (i * 5 + 3)) = some (.int .i64 q.2.2.2.1) ∧ W.cell? (x.add (i * 5 + 4)) = some (.int .i64 q.2.2.2.2)) ∧
        ((-9223372036854775808 ≤ q.1 ∧ q.1 ≤ 9223372036854775807) ∧ (-9223372036854775808 ≤ q.2.1 ∧ q.2.1 ≤ 9223372036854775807) ∧ (-9223372036854775808 ≤ q.2.2.1 ∧ q.2.2.1 ≤ 9223372036854775807) ∧ (-9223372036854775808 ≤ q.2.2.2.1 ∧ q.2.2.2.1 ≤ 9223372036854775807) ∧ (-9223372036854775808 ≤ q.2.2.2.2 ∧ q.2.2.2.2 ≤ 9223372036854775807)) := by
      intro i hi
      obtain ⟨cs', h1, h2⟩ := hx i (by omega)
      rw [cells24] at h1
      obtain ⟨_, hlen, hcell⟩ := World.cells?_some h1
      obtain ⟨xs, k, hk, hxy, _, hxl, hf⟩ := DataW.trod_struct Yba.underlying24 h2
      match xs, hxl, cs', hlen with
      | [y0, y1, y2, y3, y4], _, [v0, v1, v2, v3, v4], _ =>
        have g0 := hf 0 _ rfl
        have g1 := hf 1 _ rfl
        have g2 := hf 2 _ rfl
        have g3 := hf 3 _ rfl
        have g4 := hf 4 _ rfl
        simp [cells3, cells2] at g0 g1 g2 g3 g4
        obtain ⟨x0, e0, _, w0⟩ := DataW.trod_int Yba.underlying3 g0
        obtain ⟨x1, e1, _, w1⟩ := DataW.trod_int Yba.underlying3 g1
        obtain ⟨x2, e2, _, w2⟩ := DataW.trod_int Yba.underlying2 g2
        obtain ⟨x3, e3, _, w3⟩ := DataW.trod_int Yba.underlying2 g3
        obtain ⟨x4, e4, _, w4⟩ := DataW.trod_int Yba.underlying2 g4
        simp at e0 e1 e2 e3 e4
        subst e0 e1 e2 e3 e4
        have k0 := hcell 0 (by omega)
        have k1 := hcell 1 (by omega)
        have k2 := hcell 2 (by omega)
        have k3 := hcell 3 (by omega)
        have k4 := hcell 4 (by omega)
        rw [Deep.add_add] at k0 k1 k2 k3 k4
        exact ⟨(x0, x1, x2, x3, x4), ⟨by simpa using k0, by simpa using k1, by simpa using k2, by simpa using k3, by simpa using k4⟩, bounds_i64 w0, bounds_i64 w1, bounds_i64 w2, bounds_i64 w3, bounds_i64 w4⟩
    obtain ⟨f, hf'⟩ := Deep.choose_lt each
    refine ⟨fun i => (f i).1, fun i => (f i).2.1, fun i => (f i).2.2.1, fun i => (f i).2.2.2.1, fun i => (f i).2.2.2.2, fun j hj => ?_, ⟨fun i hi => (hf' i hi).2.1.1, fun i hi => (hf' i hi).2.1.2⟩, ⟨fun i hi => (hf' i hi).2.2.1.1, fun i hi => (hf' i hi).2.2.1.2⟩, ⟨fun i hi => (hf' i hi).2.2.2.1.1, fun i hi => (hf' i hi).2.2.2.1.2⟩, ⟨fun i hi => (hf' i hi).2.2.2.2.1.1, fun i hi => (hf' i hi).2.2.2.2.1.2⟩, ⟨fun i hi => (hf' i hi).2.2.2.2.2.1, fun i hi => (hf' i hi).2.2.2.2.2.2⟩⟩
    obtain ⟨b, off, rfl, hb⟩ := plain_addr (x := x) (by simpa [Addr.add] using (hf' 0 (by omega)).1.1)
    refine ⟨b, off, rfl, hb, fun d hd => ?_⟩
    obtain ⟨⟨c0, c1, c2, c3, c4⟩, _⟩ := hf' j hj
    rw [add_plain] at c0 c1 c2 c3 c4
    have h1 : (j * 5 + d) / 5 = j := by omega
    have h2 : (j * 5 + d) % 5 = d := by omega
    unfold at5
    rw [h1, h2]
    match d, hd with
    | 0, _ => simpa using c0
    | 1, _ => simpa [Nat.add_assoc] using c1
    | 2, _ => simpa [Nat.add_assoc] using c2
    | 3, _ => simpa [Nat.add_assoc] using c3
    | 4, _ => simpa [Nat.add_assoc] using c4
end Go.Proofs.Ybulkbabq
