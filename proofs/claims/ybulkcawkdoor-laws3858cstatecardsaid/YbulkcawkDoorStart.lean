import Derived.Test.YbulkcawkDoorCreach
namespace Go.Proofs.YbulkcawkDoor.D
open Go.RowKit

/-- the inputs in memory -/
structure Ins (w : World) (av al ab : Option Addr) (n m mb : Nat) (vs : Nat → Int) (q : Lst) (bs : Nat → Bool) : Prop where
  hn : n ≤ 300
  big : ∀ i, i < n → i < m → q.l i ≤ 4096
  V : IRow .i32 w av n vs
  vw : ∀ j, j < n → -2147483648 ≤ vs j ∧ vs j ≤ 2147483647
  L : LRow w al m q
  B : BRow w ab mb bs
  g0 : w.cell? ⟨0, 0, none⟩ = some (.int .i32 2147483647)
  g1 : w.cell? ⟨0, 1, none⟩ = some (.int .i32 2147483647)

section
variable {w w' : World} {av al ab : Option Addr} {n m mb : Nat} {vs : Nat → Int} {q : Lst} {bs : Nat → Bool}

theorem Ins.keep (h : Ins w av al ab n m mb vs q bs) (k : Keep w w') : Ins w' av al ab n m mb vs q bs :=
  { hn := h.hn, big := h.big, V := h.V.keep k, vw := h.vw, L := h.L.keep k, B := h.B.keep k, g0 := k _ _ h.g0, g1 := k _ _ h.g1 }

theorem total_le (q : Lst) (i : Nat) : ∀ (k : Nat), i < k → q.l i ≤ total q k
  | 0, h => absurd h (by omega)
  | k + 1, h => by
    by_cases e : i = k
    · subst e; simp [total]
    · have := total_le q i k (by omega)
      simp only [total]; omega

theorem big_of {q : Lst} {n m : Nat} (h : ¬ 4096 < total q (min m n)) : ∀ i, i < n → i < m → q.l i ≤ 4096 := fun i h1 h2 => by
  have := total_le q i (min m n) (by omega)
  omega

/-- an absent node reaches itself alone -/
theorem reach_not {g : T.Gr} {v y : Nat} (hh : g.here v = false) (r : T.Reach g v y) : y = v := by
  obtain ⟨k, hk⟩ := r
  cases k with
  | zero => exact hk.symm
  | succ k =>
    obtain ⟨u, e, _⟩ := hk
    rw [e.1] at hh; cases hh

theorem core0 (g : T.Gr) (hn : g.n ≤ 300) : T.Core g (rank0 g) g.val 0 [] where
  sorted := List.Pairwise.nil
  pin := fun v hv => by cases hv
  all := fun v _ => by
    right
    unfold rank0
    by_cases h : g.here v = true
    · left; exact ⟨by simp [h], h⟩
    · right; simp [h]
  sm := fun v _ _ => rfl
  done := fun v _ h => by
    have hh : g.here v = false := by
      by_cases e : g.here v = true
      · unfold rank0 at h; rw [if_pos e] at h; exact absurd h (by decide)
      · simpa using e
    refine ⟨⟨⟨v, T.Reach.refl g v, rfl⟩, fun y r => ?_⟩, fun y e => ?_⟩
    · rw [reach_not hh r]; exact Int.le_refl _
    · rw [e.1] at hh; cases hh
  cnt := by
    unfold T.count
    symm
    rw [List.countP_eq_zero]
    intro v _
    unfold rank0
    by_cases h : g.here v = true <;> simp [h]
  lim := hn

theorem vis0 (g : T.Gr) : T.Vis g (rank0 g) (fun _ => False) := fun v _ hh h0 => by
  unfold rank0 at h0
  rw [if_pos hh] at h0
  exact absurd rfl h0

theorem val_lim (hv : ∀ j, j < n → -2147483648 ≤ vs j ∧ vs j ≤ 2147483647) : ∀ v, v < (grOf n vs m q bs mb).n → -2147483648 ≤ (grOf n vs m q bs mb).val v ∧ (grOf n vs m q bs mb).val v ≤ 2147483647 := by
  intro v h
  show -2147483648 ≤ conV vs bs mb v ∧ conV vs bs mb v ≤ 2147483647
  unfold conV
  split
  · exact ⟨by decide, by decide⟩
  · exact hv v h

theorem min_lim {g : T.Gr} {z : Nat} {x : Int} (hz : z < g.n) (h : T.IsMin g z x) (hv : ∀ v, v < g.n → -2147483648 ≤ g.val v ∧ g.val v ≤ 2147483647) : -2147483648 ≤ x ∧ x ≤ 2147483647 := by
  obtain ⟨y, r, e⟩ := h.1
  have := hv y (reach_lt hz r)
  omega

/-- behind the targets -/
structure S1 (w : World) (tn : Nat) (ts : Nat → Nat) (w1 : World) : Prop where
  bel : Below w.heap.size w w1
  row : w1.rowIs w.heap.size 3 tn (fun j => .int .i64 ((ts j : Nat) : Int))

theorem row_irow {w : World} {b n : Nat} {f : Nat → Int} (h : w.rowIs b 3 n (fun j => .int .i64 (f j))) : IRow .i64 w (some ⟨b, 0, none⟩) n f := fun j hj => ⟨b, 0, rfl, by simpa using h.cell hj⟩

theorem targets_in (hI : Ins w av al ab n m mb vs q bs) (h0 : 0 < n) {ta : Option Addr} {tn : Nat} (tc : Nat) {f : Nat → Int} (ht : tn ≤ 300) (hf : ∀ j, j < tn → 0 ≤ f j ∧ f j ≤ 65535) (hT : IRow .u16 w ta tn f) :
    Calls Ybad.prog 8 #[.int .i64 (n : Int), .slice ta tn tc] w fun e w1 => e = .returned (.slice (some ⟨w.heap.size, 0, none⟩) tn tn) ∧ S1 w tn (fun j => (f j).toNat % n) w1 := by
  refine (targets_any ta tn tc n f w h0 hI.hn ht hf hT).mono ?_
  rintro e w1 ⟨rfl, hb, hr⟩
  refine ⟨rfl, hb, hr.congr (fun j hj => ?_)⟩
  have := hf j hj
  have e : f j = (((f j).toNat : Nat) : Int) := by omega
  rw [e]
  simp

/-- behind the making of the graph -/
structure S2 (w : World) (tn : Nat) (ts : Nat → Nat) (g : T.Gr) (p : GP) (w2 : World) : Prop where
  bel : Below w.heap.size w w2
  row : w2.rowIs w.heap.size 3 tn (fun j => .int .i64 ((ts j : Nat) : Int))
  pg : w.heap.size < p.gb
  pn : w.heap.size < p.nb
  gm : GM w2 p g (rank0 g) g.val 0 [] [] (.slice none 0 0) (.slice none 0 0)

theorem build_in (cv cl cb : Nat) {tn : Nat} {ts : Nat → Nat} {w1 : World} (hI : Ins w av al ab n m mb vs q bs) (h1 : S1 w tn ts w1) :
    Calls Ybad.prog 6 #[.slice av n cv, .slice al m cl, .slice ab mb cb] w1 fun e w2 => ∃ p : GP, e = .returned (.pointer (some ⟨p.gb, 0, none⟩)) ∧ S2 w tn ts (grOf n vs m q bs mb) p w2 := by
  have hJ := hI.keep (Keep.below h1.bel)
  refine (build_any av al ab n cv m cl mb cb vs q bs w1 hJ.hn hJ.big hJ.V hJ.L hJ.B hJ.g0 hJ.g1).mono ?_
  rintro e w2 ⟨p, hg, hn, rfl, hb, hG⟩
  have hlt := h1.row.lt
  exact ⟨p, rfl, { bel := h1.bel.trans (hb.mono h1.bel.size), row := h1.row.of_block (hb.block _ hlt), pg := by omega, pn := by omega, gm := hG }⟩

/-- behind the walk -/
structure S3 (w : World) (tn : Nat) (ts : Nat → Nat) (g : T.Gr) (p : GP) (ob : Nat) (w3 : World) : Prop where
  bel : Below w.heap.size w w3
  row : w3.rowIs w.heap.size 3 tn (fun j => .int .i64 ((ts j : Nat) : Int))
  fini : ∃ (rank small : Nat → Int) (ranked : Nat) (out : Nat → Int), (∃ pa pc fa fc, Dy w3 p g.n rank small (ranked : Nat) (.slice pa 0 pc) (.slice fa 0 fc)) ∧ Stat w3 p g ∧ T.Core g rank small ranked [] ∧ T.Vis g rank (fun u => ∃ j, j < tn ∧ u = ts j) ∧ (∀ j, j < tn → rank (ts j) ≠ 0) ∧ w3.rowIs ob 3 tn (fun j => .int .i64 (out j)) ∧ (∀ j, j < tn → T.IsMin g (ts j) (out j))

theorem sr_in {tn : Nat} {ts : Nat → Nat} {p : GP} {w2 : World} (hI : Ins w av al ab n m mb vs q bs) (ht : tn ≤ 300) (hts : ∀ j, j < tn → ts j < n) (h2 : S2 w tn ts (grOf n vs m q bs mb) p w2) :
    Calls Ybad.prog 7 #[.pointer (some ⟨p.gb, 0, none⟩), .slice (some ⟨w.heap.size, 0, none⟩) tn tn] w2 fun e w3 => ∃ ob, e = .returned (.slice (some ⟨ob, 0, none⟩) tn tn) ∧ S3 w tn ts (grOf n vs m q bs mb) p ob w3 := by
  have hpg := h2.pg
  have hpn := h2.pn
  refine (sr_any p _ _ _ _ (some ⟨w.heap.size, 0, none⟩) tn tn ts w2 ht hts (core0 _ hI.hn) (vis0 _) (row_irow h2.row) (fun b off e => by cases e; exact ⟨by omega, by omega⟩) (val_lim hI.vw) h2.gm).mono ?_
  rintro e w3 ⟨rfl, hS⟩
  obtain ⟨rank, small, ranked, pv, fv, out, hG, hSt, hC, hV, hR, hF, hO, hB⟩ := hS.open
  have hlt := h2.row.lt
  obtain ⟨pa, pc, rfl⟩ := own_shape hG.pend
  obtain ⟨fa, fc, rfl⟩ := own_shape hG.frames
  refine ⟨_, rfl, { bel := h2.bel.trans (hB.below h2.bel.size (fun k e => by rcases e with e | e <;> omega)), row := h2.row.of_block (hB.block _ hlt (by intro e; rcases e with e | e <;> omega)), fini := ⟨rank, small, ranked, out, ⟨pa, pc, fa, fc, ?_⟩, hSt, hC, hV, hR, ?_, hO⟩ }⟩
  · have := hG.dy
    exact { c0 := this.c0, c1 := this.c1, c2 := this.c2, c3 := this.c3, c4 := this.c4, fz := this.fz, rk := this.rk, sm := this.sm, nf := this.nf }
  · exact World.rowIs.congr hF (fun j hj => by simp [hj])
end
end Go.Proofs.YbulkcawkDoor.D
