import Derived.Test.YbulkcawkDoorRows
import Derived.Test.YbulkcawkDoorWalks1
import Derived.ProofKit
import Derived.OpenShut
import Derived.SizedLaws
import Derived.ChangeOld
import Derived.Below
import Derived.Deep.Slices
import Derived.Deep.Matrix
import Derived.Deep.Grids
import Derived.LaidLaws
import Derived.LaidHandle
import Derived.LaidMore
import Derived.MakeChecks
/- THE OPENINGS: what comes in, read off the row's premise. -/
namespace Go.Proofs.YbulkcawkDoor.D
open Go.ChangeShapes Go.WideShapes Go.ChangeAt Go.RowKit

theorem own : ownKnob Ybad.prog.godebug = none := by kernel_rfl
theorem laidOut : laidOutB Ybad.prog = true := by kernel_rfl
theorem cells21 : Ybad.prog.cellsOf 21 = 1 := by kernel_rfl
theorem cells22 : Ybad.prog.cellsOf 22 = 1 := by kernel_rfl
theorem cells4 : Ybad.prog.cellsOf 4 = 1 := by kernel_rfl
theorem cells49 : Ybad.prog.cellsOf 49 = 1 := by kernel_rfl
theorem bytes21 : Ybad.prog.bytesOf 21 = 4 := by kernel_rfl
theorem reach_eq : reachBytes = 140737488351232 := rfl
theorem gNode : Ybad.prog.globalNamed (Rows.lawS3858CModelRow.named.headD "") = some 0 := by kernel_rfl
theorem tNode : (Ybad.prog.globals[0]?).map (·.type) = some 42 := by kernel_rfl

theorem node_of_laid {W : World} (h : laidMetH Ybad.prog Rows.lawS3858CModelRow.laid W) : W.cell? ⟨0, 0, none⟩ = some (.int .i32 2147483647) ∧ W.cell? ⟨0, 1, none⟩ = some (.int .i32 2147483647) := by
  rw [MakeChecks.laidMetH_plain _ _ _ (by kernel_rfl)] at h
  obtain ⟨ps, ⟨g0, t0, cs0, f0, p0, q0, hg0, ht0, hv0, hd0, _, _⟩, _, _⟩ := h
  obtain rfl := Option.some.inj (gNode.symm.trans hg0)
  obtain rfl := Option.some.inj (tNode.symm.trans ht0)
  obtain ⟨xs, k, hk, hxy, hcl, hxl, hf⟩ := DataW.trod_struct Ybad.underlying42 hd0
  have c42 : Ybad.prog.cellsOf 42 = 2 := by kernel_rfl
  rw [c42] at hcl
  have g0 := hf 0 _ rfl
  have g1 := hf 1 _ rfl
  obtain ⟨l⟩ := cs0
  simp only at hcl
  match l, hcl, xs, hxl with
  | [v0, v1], _, [y0, y1], _ =>
    simp [cells21] at g0 g1
    obtain ⟨z0, q0, e0, _⟩ := DataW.trod_int Ybad.underlying21 g0
    obtain ⟨z1, q1, e1, _⟩ := DataW.trod_int Ybad.underlying21 g1
    simp only [List.cons.injEq, and_true] at q0 q1
    subst q0 q1
    simp only [Prod.mk.injEq, List.map_cons, List.map_nil, Rows.laid_example_com_quorumfold_quorumfold_conciliate_noNode, DataW.agg.injEq, List.cons.injEq, and_true] at hxy
    obtain ⟨⟨a0, a1⟩, _⟩ := hxy
    rw [e0] at a0
    rw [e1] at a1
    have z0' : z0 = 2147483647 := by cases a0; rfl
    have z1' : z1 = 2147483647 := by cases a1; rfl
    subst z0' z1'
    exact ⟨by simpa using World.var?_cell hg0 hv0 0, by simpa using World.var?_cell hg0 hv0 1⟩

theorem add_at {b off j : Nat} : (⟨b, off, none⟩ : Addr).add j = ⟨b, off + j, none⟩ := by simp only [Addr.add]; split <;> simp_all

theorem wf_getD {k : IntKind} {zs : List Int} (h : ∀ n ∈ zs, (Lit.int k n).wf = true) {j : Nat} (hj : j < zs.length) : (Lit.int k (zs.getD j 0)).wf = true := by
  rw [List.getD_eq_getElem?_getD, List.getElem?_eq_getElem hj]; exact h _ (List.getElem_mem hj)

/-- a slice of integers that came in -/
theorem ints_in {H : Type} {enc : TypeId × Value → H} {W : World} {t e : TypeId} {k : IntKind} (ht : Ybad.prog.underlying t = some (.slice e)) (he : Ybad.prog.underlying e = some (.int k)) (hc : Ybad.prog.cellsOf e = 1) {p : List MemPlace} {d : DataW H} {a : Option Addr} {len cap : Nat}
    (h : DataW.Trod enc Ybad.prog W 0 (fun _ => true) true t (.slice a len cap) d p) : ∃ f, IRow k W a len f ∧ ∀ j, j < len → (Lit.int k (f j)).wf = true := by
  obtain ⟨fuel, hf⟩ := h
  rcases open_ints ht he hc hf with ⟨hcs, _⟩ | ⟨x, l, c, zs, hcs, _, hl, hm, hz, _, hcell, hwf⟩
  · simp [Value.cells] at hcs
    obtain ⟨rfl, rfl, rfl⟩ := hcs
    exact ⟨fun _ => 0, fun j hj => absurd hj (by omega), fun j hj => absurd hj (by omega)⟩
  · simp [Value.cells] at hcs
    obtain ⟨rfl, rfl, rfl⟩ := hcs
    simp only [if_true] at hz
    refine ⟨fun j => zs.getD j 0, fun j hj => ?_, fun j hj => wf_getD hwf (by omega)⟩
    obtain ⟨b, off, spot⟩ := x
    have h1 := hcell j (by omega)
    have hspot : spot = none := by simpa [Addr.add] using World.cell?_spot (hcell 0 (by omega))
    subst hspot
    rw [add_at] at h1
    exact ⟨b, off, rfl, h1⟩

theorem bools_in {H : Type} {enc : TypeId × Value → H} {W : World} {p : List MemPlace} {d : DataW H} {a : Option Addr} {len cap : Nat}
    (h : DataW.Trod enc Ybad.prog W 0 (fun _ => true) true 24 (.slice a len cap) d p) : ∃ f, BRow W a len f := by
  obtain ⟨fuel, hf⟩ := h
  rcases Deep.open_bools Ybad.underlying24 Ybad.underlying4 cells4 hf with ⟨hcs, _⟩ | ⟨x, l, c, B, hcs, _, hl, hm, _, hcell⟩
  · simp [Value.cells] at hcs
    obtain ⟨rfl, rfl, rfl⟩ := hcs
    exact ⟨fun _ => false, fun j hj => absurd hj (by omega)⟩
  · simp [Value.cells] at hcs
    obtain ⟨rfl, rfl, rfl⟩ := hcs
    refine ⟨B, fun j hj => ?_⟩
    obtain ⟨b, off, spot⟩ := x
    have h1 := hcell j (by omega)
    have hspot : spot = none := by simpa [Addr.add] using World.cell?_spot (hcell 0 (by omega))
    subst hspot
    rw [add_at] at h1
    exact ⟨b, off, rfl, h1⟩

theorem weightsAll_mem {H : Type} {P : Program} {e : TypeId} : ∀ {l : List (DataW H)} {d : DataW H}, d ∈ l → ∀ n ∈ d.weights P e, n ∈ DataW.weightsAll P e l
  | d' :: r, d, hd, n, hn => by
    simp only [DataW.weightsAll, List.mem_append]
    rcases List.mem_cons.1 hd with rfl | h
    · exact Or.inl hn
    · exact Or.inr (weightsAll_mem h n hn)

/-- the listen sets that came in -/
theorem lists_in {H : Type} {enc : TypeId × Value → H} {W : World} {p : List MemPlace} {d : DataW H} {a : Option Addr} {len cap : Nat}
    (h : DataW.Trod enc Ybad.prog W 0 (fun _ => true) true 23 (.slice a len cap) d p) (hw : ∀ n ∈ d.weights Ybad.prog 23, n ≤ reachBytes) : ∃ q, LRow W a len q := by
  obtain ⟨fuel, hf⟩ := h
  rcases Deep.open_int_rows Ybad.underlying23 Ybad.underlying22 Ybad.underlying21 cells22 cells21 hf with ⟨hcs, _⟩ | ⟨x, l, c, A, L, C, Z, hcs, _, hl, hm, hx, hrow⟩
  · simp [Value.cells] at hcs
    obtain ⟨rfl, rfl, rfl⟩ := hcs
    exact ⟨⟨fun _ => none, fun _ => 0, fun _ => 0, fun _ _ => 0⟩, fun j hj => absurd hj (by omega)⟩
  · simp [Value.cells] at hcs
    obtain ⟨rfl, rfl, rfl⟩ := hcs
    refine ⟨⟨A, L, C, fun i j => (Z i).getD j 0⟩, fun i hi => ?_⟩
    obtain ⟨b, off, spot⟩ := x
    have hspot : spot = none := by simpa [Addr.add] using World.cell?_spot (hrow 0 (by omega)).1
    subst hspot
    obtain ⟨h1, h2, h3, h4, h5, h6, h7⟩ := hrow i (by omega)
    rw [add_at] at h1
    refine ⟨⟨b, off, rfl, h1⟩, fun e => ?_, ?_, fun j hj => ?_, fun j hj => ?_⟩
    · have e' : A i = none := e
      have := h6 e'
      exact ⟨by show L i = 0; omega, by show C i = 0; omega⟩
    · show L i ≤ 35184372088832
      cases hA : A i with
      | none => have := h6 hA; omega
      | some y =>
        have hwt := hw (C i * 4) (by
          rw [show d = _ from congrArg Prod.fst hx]
          simp only [DataW.weights, Ybad.underlying23, List.mem_cons, List.mem_append]
          refine Or.inr (Or.inl (weightsAll_mem (List.mem_map.2 ⟨i, List.mem_range.2 hi, rfl⟩) _ ?_))
          have e : (lits (H := H) IntKind.i32 ((Z i).take (L i))).length + (lits (H := H) IntKind.i32 ((Z i).drop (L i))).length = C i := by simp [lits]; omega
          simp [Deep.intRow, hA, DataW.weights, Ybad.underlying22, bytes21, e])
        rw [reach_eq] at hwt
        omega
    · have hj : j < L i := hj
      show ∃ b off, A i = some ⟨b, off, none⟩ ∧ W.cell? ⟨b, off + j, none⟩ = some (.int .i32 ((Z i).getD j 0))
      cases hA : A i with
      | none => have := h6 hA; omega
      | some y =>
        obtain ⟨b', off', spot'⟩ := y
        have k1 := (h7 _ hA).2
        have hspot : spot' = none := by simpa [Addr.add] using World.cell?_spot (k1 0 (by omega))
        subst hspot
        have k2 := k1 j (by omega)
        rw [add_at] at k2
        exact ⟨b', off', rfl, k2⟩
    · have hj : j < L i := hj
      exact bounds_i32 (wf_getD h5 (by omega))
end Go.Proofs.YbulkcawkDoor.D
