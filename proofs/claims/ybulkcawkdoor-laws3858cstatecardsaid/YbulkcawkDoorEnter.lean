import Derived.Test.YbulkcawkDoorWalks2
import Derived.Deep.RegionHeld
namespace Go.Proofs.YbulkcawkDoor.D
open Go.RowKit

theorem take {P : Program} {ops : Array Oper} {Q : Exit → Act → World → Prop} {S : World → Prop} (i d : Nat) {oi : Oper} {v : Value} {fuel : Nat} {listed : Array Bool} {a : Act} {w : World} (hi : ops[i]? = some oi) (hd : oi.dst = some d) (hg : oi.guard = none)
    (hs : Region.noSelect ops = true) (hf : Region.free .any ops listed i = true) (hr : (Region.ready .any ops listed).contains i = true)
    (hQ : ∀ c a w, Q (.panic c) (a.put oi.dst v) w → Q (.panic c) a w) (hS : S w) (hy : ∀ w, S w → (execOp a.eval oi).run P w = .ok (.value v) w)
    (h : wpAnyH P .any ops Q S fuel (listed.setIfInBounds i true) (a.put (some d) v) w) : wpAnyH P .any ops Q S (fuel + 1) listed a w :=
  wpAnyH_take hi hs hf hr hQ (Or.inl ⟨by simp [Region.wanted, hg], hy⟩) hS (by rw [hd]; exact h)

set_option maxRecDepth 100000 in
set_option maxHeartbeats 1600000 in
theorem enter_any (p : GP) (g : T.Gr) (rank small : Nat → Int) (ranked : Nat) (ps : List Nat) (fs : List FM) (pv fv : Value) (y : Nat) (w : World) (hy : y < g.n) (hh : g.here y = true) (hr : ranked < 300) (hps : ps.length ≤ 300) (hfs : fs.length ≤ 300)
    (h : GM w p g rank small ranked ps fs pv fv) :
    Calls Ybad.prog 14 #[.pointer (some ⟨p.gb, 0, none⟩), .int .i32 y] w fun e w' => e = .returned (.tuple #[]) ∧ But (Dyn p) w w' ∧
      ∃ pv' fv', GM w' p g (fun v => if v = y then ((ranked + 1 : Nat) : Int) else rank v) small (ranked + 1) (ps ++ [y]) (fs ++ [⟨p.la y, p.ll y, p.lc y, ⟨g.ids y, y, ((ranked + 1 : Nat) : Int), small y⟩⟩]) pv' fv' := by
  obtain ⟨i21, hi, hz0, hz1, hz2⟩ := info_parts info21
  obtain ⟨i56, ji, jz0, jz1, jz2⟩ := info_parts info56
  obtain ⟨pa, pc, rfl⟩ := own_shape h.pend
  obtain ⟨fa, fc, rfl⟩ := own_shape h.frames
  have c1 := h.dy.c1
  have c2 := h.dy.c2
  have fz := h.dy.fz
  have nf := h.dy.nf
  have gn := h.st.gn
  have G1 := h.re ((But.refl _ _).setCell (Or.inl (Or.inl rfl)) _) (h.dy.set2 gn ((ranked + 1 : Nat) : Int))
  have B1 : But (Dyn p) w (w.setCell ⟨p.gb, 2, none⟩ (.int .i32 ((ranked + 1 : Nat) : Int))) := (But.refl _ _).setCell (Or.inl (Or.inl rfl)) _
  rw [show ((ranked + 1 : Nat) : Int) = (ranked : Int) + 1 from by omega] at G1 B1
  have HG := hide G1
  have HB := hide B1
  clear h G1 B1
  go_enter Ybad.func14, Ybad.ntmps14
  go_wp2
  clear c1 c2 fz nf
  generalize w.setCell ⟨p.gb, 2, none⟩ (.int .i32 ((ranked : Int) + 1)) = w1 at HG HB ⊢
  have c1 := HG.out.dy.c1
  have c2 := HG.out.dy.c2
  have rk := HG.out.dy.rk y hy
  have nf := HG.out.dy.nf
  rw [show ((ranked + 1 : Nat) : Int) = (ranked : Int) + 1 from by omega] at c2
  go_region
  have G2 : Hid (GM (w1.setCell ⟨p.nb, y * 2, none⟩ (.int .i32 ((ranked : Int) + 1))).drew p g (fun v => if v = y then (ranked : Int) + 1 else rank v) small (ranked + 1) ps fs (.slice pa ps.length pc) (.slice fa fs.length fc)) :=
    (HG.out.re ((But.refl _ _).setCell (Or.inl (Or.inr rfl)) _) (HG.out.dy.setRank gn y hy _)).drew
  have B2 : Hid (But (Dyn p) w (w1.setCell ⟨p.nb, y * 2, none⟩ (.int .i32 ((ranked : Int) + 1))).drew) := (HB.out.setCell (Or.inl (Or.inr (Or.inl rfl))) _).drew
  clear HG HB c1 c2 rk nf
  generalize (w1.setCell ⟨p.nb, y * 2, none⟩ (.int .i32 ((ranked : Int) + 1))).drew = w2 at G2 B2 ⊢
  clear w1
  have c3 := G2.out.dy.c3
  go_wp2_with (at_builtin; refine wpList_append_own _ rfl (.tmp 26) (.tmp 28) 22 rfl p.B 21 i21 (.int .i32 0) 1 4 Ybad.underlying22 hi hz0 hz1 hz2 rfl (by decide) _ _ _ rfl (G2.out.pend.alloc _) ⟨w2.heap.size, 0, none⟩ 1 1 [.int .i32 (y : Int)] rfl rfl (one_int w2 _ _ _) (one_cell _ _) (by unfold maxLen; omega) (by omega) (by have := G2.out.st.sz; simp; omega) ?_)
  intro v' w3 hown hgrow _
  obtain ⟨pa', pc', rfl⟩ := own_shape hown
  obtain ⟨G3, B3, D3⟩ := pend_push G2.out ((Below.refl _ _).alloc (Nat.le_refl _) _) hown hgrow
  have G3 := hide G3
  have B3 := hide (B2.out.trans B3)
  have c3 := D3.c3
  have fz := D3.fz
  clear D3 hown hgrow G2 B2
  go_wp2
  clear c3 fz
  generalize w3.setCell ⟨p.gb, 3, none⟩ (.slice pa' (ps.length + 1) pc') = w4 at G3 B3 ⊢
  have c0 := G3.out.dy.c0
  have c1 := G3.out.dy.c1
  have c2 := G3.out.dy.c2
  have c4 := G3.out.dy.c4
  have fz := G3.out.dy.fz
  have sm := G3.out.dy.sm y hy
  have se := G3.out.st.sent y hy
  have ml := G3.out.st.mlis y hy hh
  have hsz := G3.out.st.sz
  rw [if_pos hh] at se
  rw [show ((ranked + 1 : Nat) : Int) = (ranked : Int) + 1 from by omega] at c2
  have HX := hide (entered_ok G3.out.st hy hh ((ranked : Int) + 1) (small y))
  refine wp_region_held_drew (S := fun w' => w'.cell? ⟨p.gb, 0, none⟩ = some (.slice (some ⟨p.sb, 0, none⟩) g.n g.n) ∧ w'.cell? ⟨p.gb, 1, none⟩ = some (.slice (some ⟨p.nb, 0, none⟩) g.n g.n) ∧ w'.cell? ⟨p.gb, 2, none⟩ = some (.int .i32 ((ranked : Int) + 1)) ∧ w'.cell? ⟨p.nb, y * 2 + 1, none⟩ = some (.int .i32 (small y)) ∧ w'.cell? ⟨p.sb, y, none⟩ = some (.pointer (some ⟨p.mb y, 0, none⟩)) ∧ w'.cell? ⟨p.mb y, 1, none⟩ = some (.slice (p.la y) (p.ll y) (p.lc y))) (by kernel_rfl) ⟨c0, c1, c2, sm, se, ml⟩ (fun hHeld => ?_)
  refine take 0 32 rfl rfl rfl (by kernel_rfl) (by kernel_rfl) (by kernel_rfl) (fun _ _ _ h => h) hHeld (v := (.pointer (some ⟨p.gb, 0, none⟩))) (by intro w hSw; (try dsimp only at hSw); go_simp) ?_
  simp only [Act.put, List.setIfInBounds_toArray, List.set_cons_zero, List.set_cons_succ]
  refine take 1 33 rfl rfl rfl (by kernel_rfl) (by kernel_rfl) (by kernel_rfl) (fun _ _ _ h => h) hHeld (v := (.pointer (some ⟨p.gb, 0, none⟩))) (by intro w hSw; (try dsimp only at hSw); go_simp) ?_
  simp only [Act.put, List.setIfInBounds_toArray, List.set_cons_zero, List.set_cons_succ]
  refine take 2 34 rfl rfl rfl (by kernel_rfl) (by kernel_rfl) (by kernel_rfl) (fun _ _ _ h => h) hHeld (v := (.pointer (some ⟨p.gb, 0, none⟩))) (by intro w hSw; (try dsimp only at hSw); go_simp) ?_
  simp only [Act.put, List.setIfInBounds_toArray, List.set_cons_zero, List.set_cons_succ]
  refine take 3 35 rfl rfl rfl (by kernel_rfl) (by kernel_rfl) (by kernel_rfl) (fun _ _ _ h => h) hHeld (v := (.pointer (some ⟨p.gb, 4, none⟩))) (by intro w hSw; (try dsimp only at hSw); go_simp) ?_
  simp only [Act.put, List.setIfInBounds_toArray, List.set_cons_zero, List.set_cons_succ]
  refine take 5 37 rfl rfl rfl (by kernel_rfl) (by kernel_rfl) (by kernel_rfl) (fun _ _ _ h => h) hHeld (v := (.pointer (some ⟨p.gb, 0, none⟩))) (by intro w hSw; (try dsimp only at hSw); go_simp) ?_
  simp only [Act.put, List.setIfInBounds_toArray, List.set_cons_zero, List.set_cons_succ]
  refine take 6 38 rfl rfl rfl (by kernel_rfl) (by kernel_rfl) (by kernel_rfl) (fun _ _ _ h => h) hHeld (v := (.pointer (some ⟨p.gb, 0, none⟩))) (by intro w hSw; (try dsimp only at hSw); go_simp) ?_
  simp only [Act.put, List.setIfInBounds_toArray, List.set_cons_zero, List.set_cons_succ]
  refine take 7 39 rfl rfl rfl (by kernel_rfl) (by kernel_rfl) (by kernel_rfl) (fun _ _ _ h => h) hHeld (v := (.pointer (some ⟨p.gb, 0, none⟩))) (by intro w hSw; (try dsimp only at hSw); go_simp) ?_
  simp only [Act.put, List.setIfInBounds_toArray, List.set_cons_zero, List.set_cons_succ]
  refine take 8 40 rfl rfl rfl (by kernel_rfl) (by kernel_rfl) (by kernel_rfl) (fun _ _ _ h => h) hHeld (v := (.slice (some ⟨p.sb, 0, none⟩) g.n g.n)) (by intro w hSw; (try dsimp only at hSw); go_simp) ?_
  simp only [Act.put, List.setIfInBounds_toArray, List.set_cons_zero, List.set_cons_succ]
  refine take 9 41 rfl rfl rfl (by kernel_rfl) (by kernel_rfl) (by kernel_rfl) (fun _ _ _ h => h) hHeld (v := (.int .i32 (y : Int))) (by intro w hSw; (try dsimp only at hSw); go_simp) ?_
  simp only [Act.put, List.setIfInBounds_toArray, List.set_cons_zero, List.set_cons_succ]
  refine take 10 42 rfl rfl rfl (by kernel_rfl) (by kernel_rfl) (by kernel_rfl) (fun _ _ _ h => h) hHeld (v := (.pointer (some ⟨p.sb, y, none⟩))) (by intro w hSw; (try dsimp only at hSw); go_simp) ?_
  simp only [Act.put, List.setIfInBounds_toArray, List.set_cons_zero, List.set_cons_succ]
  refine take 11 43 rfl rfl rfl (by kernel_rfl) (by kernel_rfl) (by kernel_rfl) (fun _ _ _ h => h) hHeld (v := (.pointer (some ⟨p.mb y, 0, none⟩))) (by intro w hSw; (try dsimp only at hSw); go_simp) ?_
  simp only [Act.put, List.setIfInBounds_toArray, List.set_cons_zero, List.set_cons_succ]
  refine take 12 44 rfl rfl rfl (by kernel_rfl) (by kernel_rfl) (by kernel_rfl) (fun _ _ _ h => h) hHeld (v := (.pointer (some ⟨p.mb y, 0, none⟩))) (by intro w hSw; (try dsimp only at hSw); go_simp) ?_
  simp only [Act.put, List.setIfInBounds_toArray, List.set_cons_zero, List.set_cons_succ]
  refine take 13 45 rfl rfl rfl (by kernel_rfl) (by kernel_rfl) (by kernel_rfl) (fun _ _ _ h => h) hHeld (v := (.pointer (some ⟨p.mb y, 1, none⟩))) (by intro w hSw; (try dsimp only at hSw); go_simp) ?_
  simp only [Act.put, List.setIfInBounds_toArray, List.set_cons_zero, List.set_cons_succ]
  refine take 14 46 rfl rfl rfl (by kernel_rfl) (by kernel_rfl) (by kernel_rfl) (fun _ _ _ h => h) hHeld (v := (.slice (p.la y) (p.ll y) (p.lc y))) (by intro w hSw; (try dsimp only at hSw); go_simp) ?_
  simp only [Act.put, List.setIfInBounds_toArray, List.set_cons_zero, List.set_cons_succ]
  refine take 15 47 rfl rfl rfl (by kernel_rfl) (by kernel_rfl) (by kernel_rfl) (fun _ _ _ h => h) hHeld (v := (.int .i32 (y : Int))) (by intro w hSw; (try dsimp only at hSw); go_simp) ?_
  simp only [Act.put, List.setIfInBounds_toArray, List.set_cons_zero, List.set_cons_succ]
  refine take 16 48 rfl rfl rfl (by kernel_rfl) (by kernel_rfl) (by kernel_rfl) (fun _ _ _ h => h) hHeld (v := (.pointer (some ⟨p.gb, 0, none⟩))) (by intro w hSw; (try dsimp only at hSw); go_simp) ?_
  simp only [Act.put, List.setIfInBounds_toArray, List.set_cons_zero, List.set_cons_succ]
  refine take 17 49 rfl rfl rfl (by kernel_rfl) (by kernel_rfl) (by kernel_rfl) (fun _ _ _ h => h) hHeld (v := (.pointer (some ⟨p.gb, 0, none⟩))) (by intro w hSw; (try dsimp only at hSw); go_simp) ?_
  simp only [Act.put, List.setIfInBounds_toArray, List.set_cons_zero, List.set_cons_succ]
  refine take 18 50 rfl rfl rfl (by kernel_rfl) (by kernel_rfl) (by kernel_rfl) (fun _ _ _ h => h) hHeld (v := (.pointer (some ⟨p.gb, 2, none⟩))) (by intro w hSw; (try dsimp only at hSw); go_simp) ?_
  simp only [Act.put, List.setIfInBounds_toArray, List.set_cons_zero, List.set_cons_succ]
  refine take 19 51 rfl rfl rfl (by kernel_rfl) (by kernel_rfl) (by kernel_rfl) (fun _ _ _ h => h) hHeld (v := (.int .i32 ((ranked : Int) + 1))) (by intro w hSw; (try dsimp only at hSw); go_simp) ?_
  simp only [Act.put, List.setIfInBounds_toArray, List.set_cons_zero, List.set_cons_succ]
  refine take 20 52 rfl rfl rfl (by kernel_rfl) (by kernel_rfl) (by kernel_rfl) (fun _ _ _ h => h) hHeld (v := (.pointer (some ⟨p.gb, 0, none⟩))) (by intro w hSw; (try dsimp only at hSw); go_simp) ?_
  simp only [Act.put, List.setIfInBounds_toArray, List.set_cons_zero, List.set_cons_succ]
  refine take 21 53 rfl rfl rfl (by kernel_rfl) (by kernel_rfl) (by kernel_rfl) (fun _ _ _ h => h) hHeld (v := (.pointer (some ⟨p.gb, 0, none⟩))) (by intro w hSw; (try dsimp only at hSw); go_simp) ?_
  simp only [Act.put, List.setIfInBounds_toArray, List.set_cons_zero, List.set_cons_succ]
  refine take 22 54 rfl rfl rfl (by kernel_rfl) (by kernel_rfl) (by kernel_rfl) (fun _ _ _ h => h) hHeld (v := (.pointer (some ⟨p.gb, 1, none⟩))) (by intro w hSw; (try dsimp only at hSw); go_simp) ?_
  simp only [Act.put, List.setIfInBounds_toArray, List.set_cons_zero, List.set_cons_succ]
  refine take 23 55 rfl rfl rfl (by kernel_rfl) (by kernel_rfl) (by kernel_rfl) (fun _ _ _ h => h) hHeld (v := (.slice (some ⟨p.nb, 0, none⟩) g.n g.n)) (by intro w hSw; (try dsimp only at hSw); go_simp) ?_
  simp only [Act.put, List.setIfInBounds_toArray, List.set_cons_zero, List.set_cons_succ]
  refine take 24 56 rfl rfl rfl (by kernel_rfl) (by kernel_rfl) (by kernel_rfl) (fun _ _ _ h => h) hHeld (v := (.int .i32 (y : Int))) (by intro w hSw; (try dsimp only at hSw); go_simp) ?_
  simp only [Act.put, List.setIfInBounds_toArray, List.set_cons_zero, List.set_cons_succ]
  refine take 25 57 rfl rfl rfl (by kernel_rfl) (by kernel_rfl) (by kernel_rfl) (fun _ _ _ h => h) hHeld (v := (.pointer (some ⟨p.nb, y * 2, none⟩))) (by intro w hSw; (try dsimp only at hSw); go_simp) ?_
  simp only [Act.put, List.setIfInBounds_toArray, List.set_cons_zero, List.set_cons_succ]
  refine take 26 58 rfl rfl rfl (by kernel_rfl) (by kernel_rfl) (by kernel_rfl) (fun _ _ _ h => h) hHeld (v := (.pointer (some ⟨p.nb, y * 2 + 1, none⟩))) (by intro w hSw; (try dsimp only at hSw); go_simp) ?_
  simp only [Act.put, List.setIfInBounds_toArray, List.set_cons_zero, List.set_cons_succ]
  refine take 27 59 rfl rfl rfl (by kernel_rfl) (by kernel_rfl) (by kernel_rfl) (fun _ _ _ h => h) hHeld (v := (.int .i32 (small y))) (by intro w hSw; (try dsimp only at hSw); go_simp) ?_
  simp only [Act.put, List.setIfInBounds_toArray, List.set_cons_zero, List.set_cons_succ]
  refine take 28 60 rfl rfl rfl (by kernel_rfl) (by kernel_rfl) (by kernel_rfl) (fun _ _ _ h => h) hHeld (v := (.agg #[.slice (p.la y) (p.ll y) (p.lc y), .int .i32 (y : Int), .int .i32 ((ranked : Int) + 1), .int .i32 (small y)])) (by intro w hSw; (try dsimp only at hSw); go_simp) ?_
  simp only [Act.put, List.setIfInBounds_toArray, List.set_cons_zero, List.set_cons_succ]
  refine wpAnyH_ready (rs := [4, 29]) (by kernel_rfl) (by simp) (AllReadyH.cons rfl (fun K hK => ?_) (AllReadyH.cons rfl (fun K hK => ?_) AllReadyH.nil))
  go_simp
  refine hK.out _ _ hHeld (fun hHeld => ?_)
  clear hK K
  refine wpAnyH_ready (rs := [29]) (by kernel_rfl) (by simp) (AllReadyH.cons rfl (fun K hK => ?_) AllReadyH.nil)
  go_simp
  refine hK.out _ _ (by go_keep) (fun hHeld => ?_)
  clear hK K
  rotate_left
  go_simp
  refine hK.out _ _ (by go_keep) (fun hHeld => ?_)
  clear hK K
  have c4a : ∀ o, (w4.alloc o).cell? ⟨p.gb, 4, none⟩ = some (.slice fa fs.length fc) := fun o => (World.cell?_alloc_lt w4 o ⟨p.gb, 4, none⟩ G3.out.lt.1).trans c4
  refine wpAnyH_ready (rs := [4]) (by kernel_rfl) (by simp) (AllReadyH.cons rfl (fun K hK => ?_) AllReadyH.nil)
  go_simp
  refine hK.out _ _ hHeld (fun hHeld => ?_)
  clear hK K
  all_goals
    refine wpAnyH_ready (rs := [30]) (by kernel_rfl) (by simp) (AllReadyH.cons rfl (fun K hK => ?_) AllReadyH.nil)
    refine step_append_own rfl (.tmp 36) (.tmp 61) 37 rfl p.B 56 i56 (.agg #[.slice none 0 0, .int .i32 0, .int .i32 0, .int .i32 0]) 4 40 Ybad.underlying37 ji jz0 jz1 jz2 rfl (by decide) (.slice fa fs.length fc) fs.length (fs.flatMap fcells) rfl (by exact G3.out.frames.alloc _) ⟨w4.heap.size, 0, none⟩ 1 1 (fcells ⟨p.la y, p.ll y, p.lc y, ⟨g.ids y, y, (ranked : Int) + 1, small y⟩⟩) rfl rfl (by exact four_new w4 _) (four_one _) (by unfold maxLen; omega) (by omega) (by have := G3.out.st.sz; simp; omega) ?_
    intro v' w5 hown hgrow
    obtain ⟨fa', fc', rfl⟩ := own_shape hown
    obtain ⟨G5, B5, D5, S5⟩ := frame_push G3.out ((Below.refl _ _).alloc (Nat.le_refl _) _).drew hown hgrow HX.out
    have G5 := hide G5
    have B5 := hide (B3.out.trans B5)
    have fz5 := D5.fz
    have nn := D5.c4
    have d2 := D5.c2
    have se5 := S5.sent y hy
    have ml5 := S5.mlis y hy hh
    rw [if_pos hh] at se5
    rw [show ((ranked + 1 : Nat) : Int) = (ranked : Int) + 1 from by omega] at d2
    refine hK.out _ _ ⟨D5.c0, D5.c1, d2, D5.sm y hy, se5, ml5⟩ (fun hHeld => ?_)
    clear hK K hown hgrow
    refine take 31 63 rfl rfl rfl (by kernel_rfl) (by kernel_rfl) (by kernel_rfl) (fun _ _ _ h => h) hHeld (v := (.pointer (some ⟨p.gb, 0, none⟩))) (by intro w hSw; (try dsimp only at hSw); go_simp) ?_
    refine take 32 64 rfl rfl rfl (by kernel_rfl) (by kernel_rfl) (by kernel_rfl) (fun _ _ _ h => h) hHeld (v := (.pointer (some ⟨p.gb, 4, none⟩))) (by intro w hSw; (try dsimp only at hSw); go_simp) ?_
    refine wpAnyH_ready (rs := [33]) (by kernel_rfl) (by simp) (AllReadyH.cons rfl (fun K hK => ?_) AllReadyH.nil)
    go_simp
    have e2 := G5.out.dy.c2
    have se6 := G5.out.st.sent y hy
    have ml6 := G5.out.st.mlis y hy hh
    rw [if_pos hh] at se6
    rw [show ((ranked + 1 : Nat) : Int) = (ranked : Int) + 1 from by omega] at e2
    refine hK.out _ _ ⟨G5.out.dy.c0, G5.out.dy.c1, e2, G5.out.dy.sm y hy, se6, ml6⟩ (fun hHeld => ?_)
    clear hK K
    refine wpAnyH_done (by kernel_rfl) ?_ _
    clear hHeld e2 se6 ml6 se5 ml5 d2
    change bodyPost Ybad.prog Ybad.f14 _ _ _ _
    refine bodyPost_end (results_none rfl _ _ _) rfl ⟨rfl, B5.out, .slice pa' (ps.length + 1) pc', .slice fa' (fs.length + 1) fc', ?_⟩
    rw [show ((ranked + 1 : Nat) : Int) = (ranked : Int) + 1 from by omega]
    exact G5.out
end Go.Proofs.YbulkcawkDoor.D
