/-
  A PROOF OF 'Rows.LawS3873CFirstMatchSaid' ('shrink-wrap.LawS3873CFirstMatch').
-/
import Derived.Test.YbulkcbemRows
import Derived.WalkKit
import Derived.ProofKit
import Derived.OpenShut
import Derived.SizedLaws
import Derived.ChangeOld
import Derived.Below
import Derived.Deep.Slices
import Derived.Deep.SlicePairs
import Derived.Test.YbulkcbemWalks3
namespace Go.Proofs.Ybulkcbem.lawS3873CFirstMatch
open Go.ChangeShapes Go.WideShapes Go.ChangeAt Go.RowKit
set_option linter.unusedVariables false

theorem own : ownKnob Yba.prog.godebug = none := by kernel_rfl
theorem laidOut : laidOutB Yba.prog = true := by kernel_rfl
theorem cells79 : Yba.prog.cellsOf 79 = 4 := by kernel_rfl
theorem cells3 : Yba.prog.cellsOf 3 = 1 := by kernel_rfl
theorem cells54 : Yba.prog.cellsOf 54 = 1 := by kernel_rfl
theorem bytes3 : Yba.prog.bytesOf 3 = 8 := by kernel_rfl
theorem reach_eq : reachBytes = 140737488351232 := rfl

theorem add_at {b off j : Nat} : (⟨b, off, none⟩ : Addr).add j = ⟨b, off + j, none⟩ := by simp only [Addr.add]; split <;> simp_all

theorem weightsAll_mem {H : Type} {P : Program} {e : TypeId} : ∀ {l : List (DataW H)} {d : DataW H}, d ∈ l → ∀ n ∈ d.weights P e, n ∈ DataW.weightsAll P e l
  | d' :: r, d, hd, n, hn => by
    simp only [DataW.weightsAll, List.mem_append]
    rcases List.mem_cons.1 hd with rfl | h
    · exact Or.inl hn
    · exact Or.inr (weightsAll_mem h n hn)

/-- one sequence that came in: its cells, its starts, and the starts' reach -/
def Elem {H : Type} (W : World) (x : Addr) (i : Nat) (d : DataW H) (r : Int × Int × Option Addr × Nat × Nat × Int × List Int) : Prop :=
  W.cell? (x.add (i * 4)) = some (.int .i64 r.1) ∧ W.cell? (x.add (i * 4 + 1)) = some (.int .i64 r.2.1) ∧ W.cell? (x.add (i * 4 + 2)) = some (.slice r.2.2.1 r.2.2.2.1 r.2.2.2.2.1) ∧ W.cell? (x.add (i * 4 + 3)) = some (.int .i64 r.2.2.2.2.2.1) ∧
  ((∀ n ∈ d.weights Yba.prog 79, n ≤ reachBytes) → PE.SI W r.2.2.1 r.2.2.2.1 r.2.2.2.2.1 r.2.2.2.2.2.2)

theorem list4 {α : Type} {l : List α} (h : l.length = 4) : ∃ a b c d, l = [a, b, c, d] := by
  match l, h with
  | [a, b, c, d], _ => exact ⟨a, b, c, d, rfl⟩

theorem elem_in {H : Type} {enc : TypeId × Value → H} {W : World} {x : Addr} {i n : Nat} {cs : List Value} {d : DataW H} {pl : List MemPlace}
    (h1 : W.cells? 0 (x.add (i * Yba.prog.cellsOf 79)) (Yba.prog.cellsOf 79) = some cs) (h2 : DataW.trod enc Yba.prog W 0 (fun _ => true) true n 79 cs = some (d, pl)) : ∃ r, Elem W x i d r := by
  rw [cells79] at h1
  obtain ⟨_, hlen, hcell⟩ := World.cells?_some h1
  obtain ⟨xs, k, hk, hxy, _, hxl, hf⟩ := DataW.trod_struct Yba.underlying79 h2
  obtain ⟨y0, y1, y2, y3, rfl⟩ := list4 (l := xs) (by simpa using hxl)
  obtain ⟨v0, v1, v2, v3, rfl⟩ := list4 hlen
  have g0 := hf 0 _ rfl
  have g1 := hf 1 _ rfl
  have g2 := hf 2 _ rfl
  have g3 := hf 3 _ rfl
  simp [cells3, cells54] at g0 g1 g2 g3
  have e0 := hcell 0 (by omega)
  have e1 := hcell 1 (by omega)
  have e2 := hcell 2 (by omega)
  have e3 := hcell 3 (by omega)
  rw [Deep.add_add] at e0 e1 e2 e3
  obtain ⟨z0, q0, _, _⟩ := DataW.trod_int Yba.underlying3 g0
  obtain ⟨z1, q1, _, _⟩ := DataW.trod_int Yba.underlying3 g1
  obtain ⟨z3, q3, _, _⟩ := DataW.trod_int Yba.underlying3 g3
  simp only [List.cons.injEq, and_true] at q0 q1 q3
  subst q0 q1 q3
  simp only [Prod.mk.injEq, List.map_cons, List.map_nil] at hxy
  rcases open_ints Yba.underlying54 Yba.underlying3 cells3 g2 with ⟨hcs, hx2⟩ | ⟨ad, l, c, zs, hcs, _, hl, hm, hz, hx2, hc2, _⟩
  · simp only [List.cons.injEq, and_true] at hcs
    subst hcs
    exact ⟨(z0, z1, none, 0, 0, z3, []), by simpa using e0, by simpa using e1, by simpa using e2, by simpa using e3, fun _ => ⟨fun _ => ⟨rfl, rfl⟩, Nat.zero_le _, (by show 0 * 8 ≤ 140737488355328; omega), rfl, fun i hi => absurd hi (Nat.not_lt_zero _)⟩⟩
  · simp only [List.cons.injEq, and_true] at hcs
    subst hcs
    have hz' : zs.length = c := by simpa using hz
    have hlc : l ≤ c := hl
    have hcm : c ≤ maxLen := hm
    clear hz hl hm
    refine ⟨(z0, z1, some ad, l, c, z3, zs.take l), by simpa using e0, by simpa using e1, by simpa using e2, by simpa using e3, fun hw => ⟨(fun e => by cases e), Nat.le_trans hlc hcm, ?_, (by show (zs.take l).length = l; rw [List.length_take]; omega), fun j hj => ⟨ad, rfl, ?_⟩⟩⟩
    · have hwt := hw (c * 8) (by
        rw [hxy.1, hx2]
        have e : (lits (H := H) IntKind.i64 (zs.take l)).length + (lits (H := H) IntKind.i64 (zs.drop l)).length = c := by simp [lits]; omega
        simp [DataW.weights, Yba.underlying79, DataW.weightsEach, Yba.underlying54, bytes3, e])
      rw [reach_eq] at hwt
      show l * 8 ≤ 140737488355328
      omega
    · have hj : j < l := hj
      rw [hc2 j (by omega)]
      simp [List.getD_eq_getElem?_getD, hj]

/-- the slice that came in -/
theorem seqs_in {H : Type} {enc : TypeId × Value → H} {W : World} {p : List MemPlace} {d : DataW H} {a : Option Addr} {len cap : Nat}
    (h : DataW.Trod enc Yba.prog W 0 (fun _ => true) true 61 (.slice a len cap) d p) (hw : ∀ n ∈ d.weights Yba.prog 61, n ≤ reachBytes) :
    (a = none ∧ len = 0 ∧ cap = 0) ∨ ∃ x, a = some x ∧ ∃ (q : PE.Seqs) (zs : Nat → List Int), PE.InRow W (some x) len q ∧ ∀ j, j < len → PE.SI W (q.sa j) (q.sl j) (q.sc j) (zs j) := by
  obtain ⟨fuel, hf⟩ := h
  rcases Deep.open_slice Yba.underlying61 hf with ⟨hcs, _⟩ | ⟨x, l, c, m, n, D, Pl, hcs, _, hl, hm, hmm, hx, hel⟩
  · simp [Value.cells] at hcs
    exact Or.inl hcs
  · simp [Value.cells] at hcs
    obtain ⟨rfl, rfl, rfl⟩ := hcs
    simp only [if_true] at hmm
    subst hmm
    refine Or.inr ⟨x, rfl, ?_⟩
    have each : ∀ i, i < len → ∃ r, Elem W x i (D i) r := by
      intro i hi
      obtain ⟨cs', h1, h2⟩ := hel i (by omega)
      exact elem_in h1 h2
    obtain ⟨R, hR⟩ := Deep.choose_lt each
    have hsize : ∀ i, i < len → ∀ n ∈ (D i).weights Yba.prog 79, n ≤ reachBytes := by
      intro i hi n hn
      refine hw n ?_
      rw [show d = _ from congrArg Prod.fst hx]
      simp only [DataW.weights, Yba.underlying61, List.mem_cons, List.mem_append]
      exact Or.inr (Or.inl (weightsAll_mem (List.mem_map.2 ⟨i, List.mem_range.2 hi, rfl⟩) n hn))
    refine ⟨⟨fun i => (R i).1, fun i => (R i).2.1, fun i => (R i).2.2.1, fun i => (R i).2.2.2.1, fun i => (R i).2.2.2.2.1, fun i => (R i).2.2.2.2.2.1⟩, fun i => (R i).2.2.2.2.2.2, ?_, fun j hj => (hR j hj).2.2.2.2 (hsize j hj)⟩
    intro j hj
    obtain ⟨b, off, spot⟩ := x
    have hspot : spot = none := by simpa [Addr.add] using World.cell?_spot (hR 0 (by omega)).1
    subst hspot
    refine ⟨b, off, rfl, fun i hi => ?_⟩
    obtain ⟨e0, e1, e2, e3, _⟩ := hR i hi
    rw [add_at] at e0 e1 e2 e3
    exact ⟨e0, e1, e2, e3⟩

set_option maxRecDepth 100000 in
theorem walk (a : Option Addr) (len cap : Nat) (hit : Bool) (pick f t : Int) (W : World) (p0 : 0 ≤ pick) (p1 : pick ≤ 255)
    (h : (a = none ∧ len = 0 ∧ cap = 0) ∨ ∃ x, a = some x ∧ ∃ (q : PE.Seqs) (zs : Nat → List Int), PE.InRow W (some x) len q ∧ ∀ j, j < len → PE.SI W (q.sa j) (q.sl j) (q.sc j) (zs j)) :
    Calls Yba.prog 5 #[.slice a len cap, .bool hit, .int .u8 pick, .int .i64 f, .int .i64 t] W fun e w' => e = .returned (.bool true) ∧ Below W.heap.size W w' := by
  rcases h with ⟨rfl, rfl, rfl⟩ | ⟨x, rfl, q, zs, hq, hs⟩
  · exact PE.law_nil hit pick f t W
  · by_cases hl : 1024 < len
    · go_enter Yba.func5, Yba.ntmps5
      go_wp2
      go_ret
      exact ⟨rfl, Below.refl _ _⟩
    · by_cases h0 : len = 0
      · subst h0
        cases hit with
        | true => exact PE.law_zero x cap pick f t W
        | false => exact PE.law_miss x 0 cap q pick f t W (by omega) hq (PE.build_zero x cap q W)
      · obtain ⟨b, off, e, hrow⟩ := hq 0 (by omega)
        cases e
        have hb := PE.build_any b off len cap q zs W (by omega) hrow hs
        cases hit with
        | true => exact PE.law_hit _ len cap q pick f t (by omega) p0 p1 W (by omega) hq hb
        | false => exact PE.law_miss _ len cap q pick f t W (by omega) hq hb

set_option maxRecDepth 100000 in
theorem lifted (os : Os) (started : os.Started) (H : Type) (enc : TypeId × Value → H) :
    ReturnsInHanded {} Yba.checked os 5 .any (Rows.lawS3873CFirstMatchSpec.pre6 enc Yba.prog Yba.f5 Rows.lawS3873CFirstMatchRow.domain false) (Rows.lawS3873CFirstMatchSpec.post enc Yba.prog Yba.f5 false true false false) := by
  refine returnsInHanded_of_change_sized (C := Yba.checked) own started (by kernel_rfl) Yba.func5
    (ChangeSpec.witness6 (enc := enc) (C := Yba.checked) false ⟨#[], #[.slice none 0 0, .bool false, .int .u8 0, .int .i64 0, .int .i64 0], []⟩ 8 (by kernel_rfl) (by kernel_rfl) (by kernel_rfl) (by kernel_rfl)) ?_
  intro W base args ds gs before hval0 hW hcnd hsz0 _
  have hsz : (DataW.weightsEach Yba.prog (Yba.f5.params.toList ++ Rows.lawS3873CFirstMatchSpec.plain.varTypes Yba.prog) (ds ++ gs)).all (· ≤ reachBytes) = true := hsz0
  have hval : ∀ (j : Nat) t v, Yba.f5.params[j]? = some t → args[j]? = some v → Value.okWide Yba.prog W .any base t v := hval0
  have hW' := hW
  obtain ⟨p, q, hA0, hV, rfl, hfz, hnd⟩ := hW
  have hA : DataW.TrodAll enc Yba.prog W 0 (fun _ => true) true Yba.f5.params.toList args.toList ds p := hA0
  rw [Yba.params5] at hA hval hsz
  obtain ⟨v0, vs0, d0, ds0, p0, q0, hargs, rfl, rfl, h0, r0⟩ := trodAll_cons hA
  obtain ⟨v1, vs1, d1, ds1, p1, q1, rfl, rfl, rfl, h1, r1⟩ := trodAll_cons r0
  obtain ⟨v2, vs2, d2, ds2, p2, q2, rfl, rfl, rfl, h2, r2⟩ := trodAll_cons r1
  obtain ⟨v3, vs3, d3, ds3, p3, q3, rfl, rfl, rfl, h3, r3⟩ := trodAll_cons r2
  obtain ⟨v4, vs4, d4, ds4, p4, q4, rfl, rfl, rfl, h4, r4⟩ := trodAll_cons r3
  obtain ⟨rfl, rfl, rfl⟩ := trodAll_nil r4
  obtain rfl : args = #[v0, v1, v2, v3, v4] := by cases args; simp_all
  obtain ⟨rfl, rfl⟩ := trodVars_none hV
  obtain ⟨a0, len0, cap0, rfl⟩ := okWide_slice Yba.underlying61 (hval 0 61 v0 rfl rfl)
  obtain ⟨a1, rfl, rfl, rfl⟩ := open_bool Yba.underlying4 (hval 1 4 v1 rfl rfl) h1
  obtain ⟨a2, rfl, rfl, rfl, w2⟩ := open_int Yba.underlying5 (hval 2 5 v2 rfl rfl) h2
  obtain ⟨a3, rfl, rfl, rfl, w3⟩ := open_int Yba.underlying3 (hval 3 3 v3 rfl rfl) h3
  obtain ⟨a4, rfl, rfl, rfl, w4⟩ := open_int Yba.underlying3 (hval 4 3 v4 rfl rfl) h4
  have k0 := h0
  have lt0 : ∀ x ∈ p0, x.block < W.heap.size := by obtain ⟨m, hm⟩ := k0; exact DataW.trod_lt m _ _ _ hm
  have hin := seqs_in h0 (fun n hn => of_decide_eq_true (List.all_eq_true.1 hsz _ (DataW.weights_mem_each (j := 0) (t := 61) rfl rfl n hn)))
  obtain ⟨b2, b2'⟩ := bounds_u8 w2
  clear hA0 hval0
  refine (walk a0 len0 cap0 a1 a2 a3 a4 W b2 b2' hin).mono fun e W' ⟨he, bel⟩ => ?_
  subst he
  exact ⟨_, rfl, _, _, _, [], _, [], hW', trodAll_mk1 (shut_bool Yba.underlying4 _), (trodAll_cons_mk (Below.trod laidOut (by kernel_rfl) (of_decide_eq_true (by kernel_rfl)) k0 bel lt0) (trodAll_cons_mk (shut_bool Yba.underlying4 _) (trodAll_cons_mk (shut_int Yba.underlying5 w2) (trodAll_cons_mk (shut_int Yba.underlying3 w3) (trodAll_cons_mk (shut_int Yba.underlying3 w4) trodAll_mk0))))), rfl, bel.frame _, fun h => by cases h⟩

theorem over : Rows.lawS3873CFirstMatchRow.holds Yba.pinned (OpenSpec.ofChange Rows.lawS3873CFirstMatchSpec) :=
  OpenClaim.holds_of_wide 5 Yba.f5 rfl rfl rfl rfl rfl rfl rfl ⟨rfl, rfl, rfl, rfl, rfl⟩ rfl rfl rfl rfl rfl (by kernel_rfl) Yba.func5 (by kernel_rfl)
    (of_decide_eq_true (by kernel_rfl)) (by unfold Func.isWrapper; first | (rw [if_pos (by decide +kernel)]; kernel_rfl) | (rw [if_neg (by decide +kernel)]; exact ⟨rfl, rfl⟩))
    (fun os started H enc _ => lifted os started H enc)

/-- THE STATEMENT -/
theorem proved : Rows.LawS3873CFirstMatchSaid := over
end Go.Proofs.Ybulkcbem.lawS3873CFirstMatch
