import Derived.Test.YbulkcawkDoorTargets
namespace Go.Proofs.YbulkcawkDoor.D
open Go.RowKit

def GP.at (p : GP) (B : Nat) : GP := { p with B := B }

theorem Ids.up {w : World} {B B' : Nat} {a : Option Addr} {l : Nat} {ids : List Int} (h : Ids w B a l ids) (hB : B ≤ B') : Ids w B' a l ids :=
  ⟨h.1, fun j hj => by obtain ⟨b, off, h1, h2, h3⟩ := h.2 j hj; exact ⟨b, off, h1, by omega, h3⟩⟩

theorem Stat.up {w : World} {p : GP} {g : T.Gr} (h : Stat w p g) {B : Nat} (hB : p.B ≤ B) (hs : B ≤ w.heap.size) : Stat w (p.at B) g :=
  { gB := Nat.lt_of_lt_of_le h.gB hB, nB := Nat.lt_of_lt_of_le h.nB hB, sB := Nat.lt_of_lt_of_le h.sB hB, gn := h.gn, sg := h.sg, sn := h.sn, sz := hs, sent := h.sent,
    mlt := fun i hi hh => ⟨Nat.lt_of_lt_of_le (h.mlt i hi hh).1 hB, (h.mlt i hi hh).2⟩, mval := h.mval, mlis := h.mlis, mids := fun i hi hh => ⟨(h.mids i hi hh).1.up hB, (h.mids i hi hh).2⟩, mnot := h.mnot, big := h.big, idw := h.idw }

theorem dyn_up {p : GP} {B : Nat} (hB : p.B ≤ B) {w w' : World} (h : But (Dyn (p.at B)) w w') : But (Dyn p) w w' :=
  h.mono (fun k _ e => by rcases e with e | e | e; exact Or.inl e; exact Or.inr (Or.inl e); exact Or.inr (Or.inr (Nat.le_trans hB e)))

/-- the walk's rows are still nil: they may be owned from any block on -/
theorem GM.rebase {w : World} {p : GP} {g : T.Gr} {rank small : Nat → Int} {ranked : Nat} (h : GM w p g rank small ranked [] [] (.slice none 0 0) (.slice none 0 0)) {B : Nat} (hB : p.B ≤ B) (hs : B ≤ w.heap.size) : GM w (p.at B) g rank small ranked [] [] (.slice none 0 0) (.slice none 0 0) :=
  { st := h.st.up hB hs, dy := { c0 := h.dy.c0, c1 := h.dy.c1, c2 := h.dy.c2, c3 := h.dy.c3, c4 := h.dy.c4, fz := h.dy.fz, rk := h.dy.rk, sm := h.dy.sm, nf := h.dy.nf }, pend := World.ownsRow_nil _ _ _ _, frames := World.ownsRow_nil _ _ _ _, fok := fun x hx => by cases hx }

/-- a store into a block that is neither the graph's nor a message's -/
theorem GM.store {w : World} {p : GP} {g : T.Gr} {rank small : Nat → Int} {ranked B N : Nat} {pv fv : Value} (h : GM w (p.at B) g rank small ranked [] [] pv fv) (hs : Stat w p g) (hB : p.B ≤ B) (hN : p.B ≤ N) (hNB : N < B) (j : Nat) (u : Value) :
    GM (w.setCell ⟨N, j, none⟩ u) (p.at B) g rank small ranked [] [] pv fv ∧ Stat (w.setCell ⟨N, j, none⟩ u) p g := by
  have hgB := hs.gB
  have hnB := hs.nB
  have hb : But (fun k => k = N) w (w.setCell ⟨N, j, none⟩ u) := (But.refl (fun k => k = N) w).setCell (p := ⟨N, j, none⟩) (Or.inl rfl) u
  have hst : Stat (w.setCell ⟨N, j, none⟩ u) p g := hs.but (hb.mono (fun k _ e => Or.inr (Or.inr (by omega))))
  refine ⟨{ st := hst.up hB (by have h9 : B ≤ w.heap.size := h.st.sz; simpa [World.setCell] using h9), dy := h.dy.but hb (by show ¬ p.gb = N; omega) (by show ¬ p.nb = N; omega) h.lt.1 h.lt.2.1, pend := ownsRow_setCell_below h.pend (a := ⟨N, j, none⟩) hNB u, frames := ownsRow_setCell_below h.frames (a := ⟨N, j, none⟩) hNB u, fok := fun x hx => (by cases hx) }, hst⟩

/-- what holds at each target's round -/
def SR (p : GP) (g : T.Gr) (ts : Nat → Nat) (tn : Nat) (w : World) (k : Nat) (wr : World) : Prop :=
  ∃ rank small ranked pv fv out, GM wr (p.at (w.heap.size + 1)) g rank small ranked [] [] pv fv ∧ Stat wr p g ∧ T.Core g rank small ranked [] ∧ T.Vis g rank (fun u => ∃ j, j < k ∧ u = ts j) ∧ (∀ j, j < k → rank (ts j) ≠ 0) ∧ Fill w.heap.size tn out k wr ∧ (∀ j, j < k → T.IsMin g (ts j) (out j)) ∧ But (fun q => q = p.gb ∨ q = p.nb) w wr

theorem SR.open {p : GP} {g : T.Gr} {ts : Nat → Nat} {tn k : Nat} {w wr : World} (h : SR p g ts tn w k wr) : ∃ rank small ranked pv fv out, GM wr (p.at (w.heap.size + 1)) g rank small ranked [] [] pv fv ∧ Stat wr p g ∧ T.Core g rank small ranked [] ∧ T.Vis g rank (fun u => ∃ j, j < k ∧ u = ts j) ∧ (∀ j, j < k → rank (ts j) ≠ 0) ∧ Fill w.heap.size tn out k wr ∧ (∀ j, j < k → T.IsMin g (ts j) (out j)) ∧ But (fun q => q = p.gb ∨ q = p.nb) w wr := h

theorem core_mx {g : T.Gr} {rank small : Nat → Int} {ranked z : Nat} (h : T.Core g rank small ranked []) (hz : z < g.n) (h0 : rank z ≠ 0) : rank z = T.MX ∧ T.IsMin g z (small z) := by
  rcases h.all z hz with a | a | a
  · cases a
  · exact absurd a.1 h0
  · exact ⟨a, (h.done z hz a).1⟩

/-- the answer for the next target is laid -/
theorem SR.step {p : GP} {g : T.Gr} {ts : Nat → Nat} {tn k : Nat} {w wr : World} {rank small : Nat → Int} {ranked : Nat} {pv fv : Value} {out : Nat → Int} (hk : ts k < g.n) (hG : GM wr (p.at (w.heap.size + 1)) g rank small ranked [] [] pv fv) (hS : Stat wr p g) (hC : T.Core g rank small ranked []) (hV : T.Vis g rank (fun u => ∃ j, j < k + 1 ∧ u = ts j)) (hR : ∀ j, j < k + 1 → rank (ts j) ≠ 0) (hF : Fill w.heap.size tn out k wr) (hO : ∀ j, j < k → T.IsMin g (ts j) (out j)) (hB : But (fun q => q = p.gb ∨ q = p.nb) w wr) (hpB : p.B ≤ w.heap.size) :
    SR p g ts tn w (k + 1) (wr.setCell ⟨w.heap.size, k, none⟩ (.int .i64 (small (ts k)))) := by
  have hm := core_mx hC hk (hR k (by omega))
  have h1 := hG.store hS (by omega) hpB (by omega) k (.int .i64 (small (ts k)))
  have hF' : Fill w.heap.size tn (fun j => if j = k then small (ts k) else out j) k wr := World.rowIs.congr hF (fun j hj => by
    by_cases e : j < k
    · simp [e, show j ≠ k by omega]
    · simp [e])
  have hF2 := hF'.step
  simp only [if_true] at hF2
  refine ⟨rank, small, ranked, pv, fv, fun j => if j = k then small (ts k) else out j, h1.1, h1.2, hC, hV, hR, hF2, fun j hj => ?_, hB.setCell (Or.inr (Nat.le_refl _)) _⟩
  by_cases e : j = k
  · subst e; simp only [if_true]; exact hm.2
  · simp only [if_neg e]; exact hO j (by omega)

theorem reach_lt {g : T.Gr} {z y : Nat} (hz : z < g.n) (h : T.Reach g z y) : y < g.n := T.Reach.closed (fun v => v < g.n) (fun _ _ _ e => e.2.1) hz h

/-- the answer for target k stands in its record -/
structure Laid (p : GP) (g : T.Gr) (ts : Nat → Nat) (tn : Nat) (w : World) (k : Nat) (w2 : World) (sm : Int) : Prop where
  c1 : w2.cell? ⟨p.gb, 1, none⟩ = some (.slice (some ⟨p.nb, 0, none⟩) g.n g.n)
  sk : w2.cell? ⟨p.nb, ts k * 2 + 1, none⟩ = some (.int .i32 sm)
  rc : ∃ u, w2.cell? ⟨w.heap.size, k, none⟩ = some u
  rf : ∀ i, w2.frozen? ⟨w.heap.size, i, none⟩ = false
  lo : -2147483648 ≤ sm
  hi : sm ≤ 2147483647
  sr : SR p g ts tn w (k + 1) (w2.setCell ⟨w.heap.size, k, none⟩ (.int .i64 sm))

theorem laid_of {p : GP} {g : T.Gr} {ts : Nat → Nat} {tn k : Nat} {w wr : World} {rank small : Nat → Int} {ranked : Nat} {pv fv : Value} {out : Nat → Int} (hk : ts k < g.n) (hkt : k < tn) (hG : GM wr (p.at (w.heap.size + 1)) g rank small ranked [] [] pv fv) (hS : Stat wr p g) (hC : T.Core g rank small ranked []) (hV : T.Vis g rank (fun u => ∃ j, j < k + 1 ∧ u = ts j)) (hR : ∀ j, j < k + 1 → rank (ts j) ≠ 0) (hF : Fill w.heap.size tn out k wr) (hO : ∀ j, j < k → T.IsMin g (ts j) (out j)) (hB : But (fun q => q = p.gb ∨ q = p.nb) w wr) (hpB : p.B ≤ w.heap.size) (hvw : ∀ v, v < g.n → -2147483648 ≤ g.val v ∧ g.val v ≤ 2147483647) :
    Laid p g ts tn w k wr (small (ts k)) := by
  have hm := core_mx hC hk (hR k (by omega))
  obtain ⟨y, hy, e⟩ := hm.2.1
  have hb := hvw y (reach_lt hk hy)
  exact { c1 := hG.dy.c1, sk := hG.dy.sm (ts k) hk, rc := ⟨_, World.rowIs.cell hF hkt⟩, rf := World.rowIs.frozen hF, lo := by omega, hi := by omega, sr := SR.step hk hG hS hC hV hR hF hO hB hpB }

theorem sr_walk {p : GP} {g : T.Gr} {ts : Nat → Nat} {tn k : Nat} {w wr : World} {rank small : Nat → Int} {ranked : Nat} {pv fv : Value} {out : Nat → Int} (hk : ts k < g.n) (hkt : k < tn) (h0 : rank (ts k) = 0) (hG : GM wr (p.at (w.heap.size + 1)) g rank small ranked [] [] pv fv) (hS : Stat wr p g) (hC : T.Core g rank small ranked []) (hV : T.Vis g rank (fun u => ∃ j, j < k ∧ u = ts j)) (hR : ∀ j, j < k → rank (ts j) ≠ 0) (hF : Fill w.heap.size tn out k wr) (hO : ∀ j, j < k → T.IsMin g (ts j) (out j)) (hB : But (fun q => q = p.gb ∨ q = p.nb) w wr) (hpB : p.B ≤ w.heap.size) (hvw : ∀ v, v < g.n → -2147483648 ≤ g.val v ∧ g.val v ≤ 2147483647) :
    Calls Ybad.prog 12 #[.pointer (some ⟨p.gb, 0, none⟩), .int .i32 ((ts k : Nat) : Int)] wr fun e w2 => e = .returned (.tuple #[]) ∧ ∃ sm, Laid p g ts tn w k w2 sm := by
  have hV' : T.Vis g rank (fun u => ∃ j, j < k + 1 ∧ u = ts j) := hV.mono (fun z ⟨j, h1, h2⟩ => ⟨j, by omega, h2⟩)
  refine (walk_any (p.at (w.heap.size + 1)) g rank small ranked pv fv (ts k) _ wr hk h0 hC hV' ⟨ts k, ⟨k, by omega, rfl⟩, T.Reach.refl g _⟩ hG).mono ?_
  rintro e w2 ⟨rfl, hb2, rank2, small2, ranked2, pv2, fv2, hG2, hC2, hV2, hK2⟩
  have hN : w.heap.size < wr.heap.size := World.rowIs.lt hF
  have hgB := hS.gB
  have hnB := hS.nB
  have hx1 : ¬ w.heap.size = p.gb := by omega
  have hx2 : ¬ w.heap.size = p.nb := by omega
  have hx3 : ¬ w.heap.size + 1 ≤ w.heap.size := by omega
  have hF2 : Fill w.heap.size tn out k w2 := World.rowIs.of_block hF (hb2.block _ hN (by intro e; rcases e with e | e | e; exact hx1 e; exact hx2 e; exact hx3 e))
  have hB2 : But (fun q => q = p.gb ∨ q = p.nb) w w2 := ⟨hb2.os.trans hB.os, hb2.tape.trans hB.tape, hb2.output.trans hB.output, Nat.le_trans hB.size hb2.size, fun i hi hs => (hb2.block i (Nat.lt_of_lt_of_le hi hB.size) (by
      intro e
      rcases e with e | e | e
      · exact hs (Or.inl e)
      · exact hs (Or.inr e)
      · exact Nat.lt_irrefl _ (Nat.lt_of_lt_of_le hi (Nat.le_of_succ_le e)))).trans (hB.block i hi hs)⟩
  exact ⟨rfl, small2 (ts k), laid_of hk hkt hG2 (hS.but (dyn_up (by omega) hb2)) hC2 hV2 (fun j hj => by
    by_cases e : j = k
    · exact hK2 _ (Or.inl (by rw [e]))
    · exact hK2 _ (Or.inr (hR j (by omega)))) hF2 hO hB2 hpB hvw⟩

set_option maxRecDepth 100000 in
set_option maxHeartbeats 1600000 in
theorem sr_any (p : GP) (g : T.Gr) (rank small : Nat → Int) (ranked : Nat) (ta : Option Addr) (tn tc : Nat) (ts : Nat → Nat) (w : World) (ht : tn ≤ 300) (hts : ∀ j, j < tn → ts j < g.n) (hc : T.Core g rank small ranked []) (hv : T.Vis g rank (fun _ => False)) (hI : IRow .i64 w ta tn (fun j => (ts j : Int))) (hIb : ∀ b off, ta = some ⟨b, off, none⟩ → b ≠ p.gb ∧ b ≠ p.nb) (hvw : ∀ v, v < g.n → -2147483648 ≤ g.val v ∧ g.val v ≤ 2147483647)
    (h : GM w p g rank small ranked [] [] (.slice none 0 0) (.slice none 0 0)) :
    Calls Ybad.prog 7 #[.pointer (some ⟨p.gb, 0, none⟩), .slice ta tn tc] w fun e w' => e = .returned (.slice (some ⟨w.heap.size, 0, none⟩) tn tn) ∧ SR p g ts tn w tn w' := by
  have hmk := run_make_row' (P := Ybad.prog) 29 3 (.int .i64 0) 8 Ybad.underlying29 info3 rfl .i64 .i64 tn (by omega) (by omega)
  have hn := hc.lim
  have hpB : p.B ≤ w.heap.size := h.st.sz
  have H0 : Hid (SR p g ts tn w 0 (w.alloc (.cells (madeCells #[.int .i64 0] tn) 3))) := by
    have hb : Below w.heap.size w (w.alloc (.cells (madeCells #[.int .i64 0] tn) 3)) := (Below.refl _ _).alloc (Nat.le_refl _) _
    have h1 := h.below hb
    refine ⟨rank, small, ranked, _, _, fun _ => 0, h1.rebase (by omega) (by simp), h1.st, hc, fun v h1 h2 h3 => ?_, fun j hj => absurd hj (by omega), ?_, fun j hj => absurd hj (by omega), But.ofBelow hb⟩
    · obtain ⟨z, hz, _⟩ := hv v h1 h2 h3; exact hz.elim
    · refine (World.rowIs_made w (.int .i64 0) tn 3).congr ?_
      intro j hj; simp
  have HI := hide hI
  have HIb := hide hIb
  have HT := hide hts
  have HV := hide hvw
  clear h hc hv hI hIb hts hvw
  go_enter Ybad.func7, Ybad.ntmps7
  go_wp2
  go_loopw [13] (fun i wr => ∃ k : Nat, k ≤ tn ∧ i = .int .i64 k ∧ Hid (SR p g ts tn w k wr)) (fun i _ => tn - (intOf i).toNat)
  case atStart => exact ⟨0, Nat.zero_le _, rfl, H0⟩
  case round =>
    obtain ⟨k, hk, rfl, HS⟩ := hrel
    clear hmk H0
    by_cases hkt : k < tn
    · obtain ⟨rank1, small1, ranked1, pv1, fv1, out, hG, hS, hC, hV, hR, hF, hO, hB⟩ := HS.out.open
      have hz := HT.out k hkt
      obtain ⟨b, off, rfl, hc⟩ := HI.out k hkt
      have hb := HIb.out b off rfl
      have hc1 : wr.cell? ⟨b, off + k, none⟩ = some (.int .i64 ((ts k : Nat) : Int)) := hB.cellSome hc (by intro e; rcases e with e | e; exact hb.1 e; exact hb.2 e)
      have c1 : wr.cell? ⟨p.gb, 1, none⟩ = some (.slice (some ⟨p.nb, 0, none⟩) g.n g.n) := hG.dy.c1
      have rk : wr.cell? ⟨p.nb, ts k * 2, none⟩ = some (.int .i32 (rank1 (ts k))) := hG.dy.rk (ts k) hz
      clear hc
      by_cases h0 : rank1 (ts k) = 0
      · have HW := hide (sr_walk hz hkt h0 hG hS hC hV hR hF hO hB hpB HV.out)
        rw [h0] at rk
        clear hG hS hC hV hR hF hO hB h0 HS
        generalize hzz : ts k = z at hz hc1 rk HW
        have HZ := hide hzz
        clear hzz
        go_wp2_with (go_at_call 12; refine HW.out.mono ?_; rintro e w2 ⟨rfl, sm, hL⟩; have HL := hide hL; clear hL; have l1 := HL.out.c1; have l2 := HL.out.sk; obtain ⟨u, l3⟩ := HL.out.rc; have l4 := HL.out.rf; have l5 := HL.out.lo; have l6 := HL.out.hi; rw [HZ.out] at l2)
        go_roundw
        case rel => exact ⟨k + 1, by omega, by go_num, HL.out.sr⟩
        case measure => simp [intOf]; omega
      · have HL := hide (laid_of hz hkt hG hS hC (hV.mono (fun z ⟨j, h1, h2⟩ => ⟨j, by omega, h2⟩)) (fun j hj => by
          by_cases e : j = k
          · rw [e]; exact h0
          · exact hR j (by omega)) hF hO hB hpB HV.out)
        have l2 := HL.out.sk
        obtain ⟨u, l3⟩ := HL.out.rc
        have l4 := HL.out.rf
        have l5 := HL.out.lo
        have l6 := HL.out.hi
        clear hG hS hC hV hR hF hO hB HS
        go_wp2
        go_roundw
        case rel => exact ⟨k + 1, by omega, by go_num, HL.out.sr⟩
        case measure => simp [intOf]; omega
    · go_wp2
      go_ret
      obtain rfl : k = tn := by omega
      exact ⟨rfl, HS.out⟩
end Go.Proofs.YbulkcawkDoor.D
