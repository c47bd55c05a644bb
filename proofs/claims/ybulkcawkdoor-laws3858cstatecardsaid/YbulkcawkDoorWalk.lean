import Derived.Test.YbulkcawkDoorEnter
import Derived.Test.YbulkcawkDoorClose
import Derived.Test.YbulkcawkDoorPlain3
import Derived.Deep.LoopGhost
namespace Go.Proofs.YbulkcawkDoor.D
open Go.RowKit

theorem own_form {w : World} {B e s : Nat} {v : Value} {n : Nat} {xs : List Value} (h : w.ownsRow B e s v n xs) (hn : 0 < n) : ∃ g cap, v = .slice (some ⟨g, 0, none⟩) n cap := by
  rcases h.2 with ⟨_, rfl⟩ | ⟨g, cap, cur, rfl, _⟩
  · omega
  · exact ⟨g, cap, rfl⟩

theorem own_cap {w : World} {B e s g cap n : Nat} {xs : List Value} (h : w.ownsRow B e s (.slice (some ⟨g, 0, none⟩) n cap) n xs) : n ≤ cap := by
  rcases h.2 with ⟨h0, _⟩ | ⟨g', cap', cur, hv, hg, hh, hn, _⟩
  · cases h0
  · cases hv; exact hn

theorem follow_some (p : GP) (g : T.Gr) (rank small : Nat → Int) (ranked : Nat) (ps : List Nat) (fs : List FM) (a : Option Addr) (l c : Nat) (ids : List Int) (v : Nat) (lo sm : Int) (pv : Value) (fb cap : Nat) (w : World) (hn : g.n ≤ 300) {y : Nat} {r : List Int} {lo' sm' : Int}
    (h : GM w p g rank small ranked ps (fs ++ [⟨a, l, c, ⟨ids, v, lo, sm⟩⟩]) pv (.slice (some ⟨fb, 0, none⟩) (fs.length + 1) cap)) (hf : T.fol g.n rank small ids lo sm = (some (y, r), lo', sm')) :
    Calls Ybad.prog 15 #[.pointer (some ⟨p.gb, 0, none⟩), .pointer (some ⟨fb, fs.length * 4, none⟩)] w fun e w' => e = .returned (.tuple #[.int .i32 (y : Int), .bool true]) ∧ But (Dyn p) w w' ∧
      ∃ a' l' c', GM w' p g rank small ranked ps (fs ++ [⟨a', l', c', ⟨r, v, lo', sm'⟩⟩]) pv (.slice (some ⟨fb, 0, none⟩) (fs.length + 1) cap) := by
  refine (follow_any p g rank small ranked ps fs a l c ids v lo sm pv fb cap w hn h).mono ?_
  rintro e w' ⟨hb, a', l', c', o, lo2, sm2, h1, he, hG⟩
  rw [hf] at h1
  cases h1
  exact ⟨he, hb, a', l', c', hG⟩

theorem follow_none (p : GP) (g : T.Gr) (rank small : Nat → Int) (ranked : Nat) (ps : List Nat) (fs : List FM) (a : Option Addr) (l c : Nat) (ids : List Int) (v : Nat) (lo sm : Int) (pv : Value) (fb cap : Nat) (w : World) (hn : g.n ≤ 300) {lo' sm' : Int}
    (h : GM w p g rank small ranked ps (fs ++ [⟨a, l, c, ⟨ids, v, lo, sm⟩⟩]) pv (.slice (some ⟨fb, 0, none⟩) (fs.length + 1) cap)) (hf : T.fol g.n rank small ids lo sm = (none, lo', sm')) :
    Calls Ybad.prog 15 #[.pointer (some ⟨p.gb, 0, none⟩), .pointer (some ⟨fb, fs.length * 4, none⟩)] w fun e w' => e = .returned (.tuple #[.int .i32 0, .bool false]) ∧ But (Dyn p) w w' ∧
      ∃ a' l' c', GM w' p g rank small ranked ps (fs ++ [⟨a', l', c', ⟨[], v, lo', sm'⟩⟩]) pv (.slice (some ⟨fb, 0, none⟩) (fs.length + 1) cap) := by
  refine (follow_any p g rank small ranked ps fs a l c ids v lo sm pv fb cap w hn h).mono ?_
  rintro e w' ⟨hb, a', l', c', o, lo2, sm2, h1, he, hG⟩
  rw [hf] at h1
  cases h1
  exact ⟨he, hb, a', l', c', hG⟩

section
variable {w : World} {p : GP} {g : T.Gr} {rank small : Nat → Int} {ranked : Nat} {ps : List Nat} {fs : List FM} {pv : Value} {fb cap : Nat} {x : FM}

theorem pop_facts (h : GM w p g rank small ranked ps (fs ++ [x]) pv (.slice (some ⟨fb, 0, none⟩) (fs.length + 1) cap)) :
    w.cell? ⟨p.gb, 4, none⟩ = some (.slice (some ⟨fb, 0, none⟩) (fs.length + 1) cap) ∧ w.cell? ⟨fb, fs.length * 4, none⟩ = some (.slice x.a x.l x.c) ∧ w.cell? ⟨fb, fs.length * 4 + 1, none⟩ = some (.int .i32 x.fr.node) ∧ w.cell? ⟨fb, fs.length * 4 + 2, none⟩ = some (.int .i32 x.fr.low) ∧
      w.cell? ⟨fb, fs.length * 4 + 3, none⟩ = some (.int .i32 x.fr.small) ∧ (w.alloc (.cells #[.slice x.a x.l x.c, .int .i32 x.fr.node, .int .i32 x.fr.low, .int .i32 x.fr.small] 56)).cell? ⟨p.gb, 4, none⟩ = some (.slice (some ⟨fb, 0, none⟩) (fs.length + 1) cap) ∧
      (w.alloc (.cells #[.slice x.a x.l x.c, .int .i32 x.fr.node, .int .i32 x.fr.low, .int .i32 x.fr.small] 56)).frozen? ⟨p.gb, 4, none⟩ = false := by
  have hll : (fs ++ [x]).length = fs.length + 1 := by simp
  have h' := h
  rw [← hll] at h'
  have f0 := h'.fcell (A := fs) (C := []) rfl 0 (by omega)
  have f1 := h'.fcell (A := fs) (C := []) rfl 1 (by omega)
  have f2 := h'.fcell (A := fs) (C := []) rfl 2 (by omega)
  have f3 := h'.fcell (A := fs) (C := []) rfl 3 (by omega)
  have hb := (h.below ((Below.refl _ _).alloc (Nat.le_refl _) (.cells #[.slice x.a x.l x.c, .int .i32 x.fr.node, .int .i32 x.fr.low, .int .i32 x.fr.small] 56))).dy
  exact ⟨h.dy.c4, f0, f1, f2, f3, hb.c4, hb.fz 4⟩

/-- the top frame is copied and dropped -/
theorem GM.popF (h : GM w p g rank small ranked ps (fs ++ [x]) pv (.slice (some ⟨fb, 0, none⟩) (fs.length + 1) cap)) :
    GM ((w.alloc (.cells #[.slice x.a x.l x.c, .int .i32 x.fr.node, .int .i32 x.fr.low, .int .i32 x.fr.small] 56)).setCell ⟨p.gb, 4, none⟩ (.slice (some ⟨fb, 0, none⟩) fs.length cap)) p g rank small ranked ps fs pv (.slice (some ⟨fb, 0, none⟩) fs.length cap) ∧
      But (Dyn p) w ((w.alloc (.cells #[.slice x.a x.l x.c, .int .i32 x.fr.node, .int .i32 x.fr.low, .int .i32 x.fr.small] 56)).setCell ⟨p.gb, 4, none⟩ (.slice (some ⟨fb, 0, none⟩) fs.length cap)) ∧
      ∀ j u, (fcells x)[j]? = some u → ((w.alloc (.cells #[.slice x.a x.l x.c, .int .i32 x.fr.node, .int .i32 x.fr.low, .int .i32 x.fr.small] 56)).setCell ⟨p.gb, 4, none⟩ (.slice (some ⟨fb, 0, none⟩) fs.length cap)).cell? ⟨w.heap.size, j, none⟩ = some u := by
  have h1 := h.below ((Below.refl _ _).alloc (Nat.le_refl _) (.cells #[.slice x.a x.l x.c, .int .i32 x.fr.node, .int .i32 x.fr.low, .int .i32 x.fr.small] 56))
  have hb0 : But (Dyn p) w (w.alloc (.cells #[.slice x.a x.l x.c, .int .i32 x.fr.node, .int .i32 x.fr.low, .int .i32 x.fr.small] 56)) := (But.refl _ _).alloc _
  have hn : ∀ j u, (fcells x)[j]? = some u → (w.alloc (.cells #[.slice x.a x.l x.c, .int .i32 x.fr.node, .int .i32 x.fr.low, .int .i32 x.fr.small] 56)).cell? ⟨w.heap.size, j, none⟩ = some u := by
    intro j u hj
    rw [World.cell?_alloc_new]
    simpa [fcells] using hj
  have hgl := h.lt.1
  have hgB := h.st.gB
  generalize w.alloc (.cells #[.slice x.a x.l x.c, .int .i32 x.fr.node, .int .i32 x.fr.low, .int .i32 x.fr.small] 56) = W at h1 hb0 hn ⊢
  have hb1 : But (Dyn p) W (W.setCell ⟨p.gb, 4, none⟩ (.slice (some ⟨fb, 0, none⟩) fs.length cap)) := (But.refl _ _).setCell (Or.inl (Or.inl rfl)) _
  refine ⟨{ st := h1.st.but hb1, dy := h1.dy.set4 h1.st.gn _, pend := ownsRow_setCell_below h1.pend (a := ⟨p.gb, 4, none⟩) hgB _, frames := ?_, fok := fun z hz => (h1.fok z (List.mem_append.2 (Or.inl hz))).but hb1 }, hb0.trans hb1, fun j u hj => ?_⟩
  · have h2 := h1.frames
    rw [List.flatMap_append] at h2
    have hll : (fs ++ [x]).length = fs.length + 1 := by simp
    rw [hll] at h2
    exact ownsRow_setCell_below (ownsRow_pop (fcells_len fs) h2) (a := ⟨p.gb, 4, none⟩) hgB _
  · rw [cell_blk _ (by omega)]; exact hn j u hj

/-- the parent takes what its child found -/
theorem GM.parent (h : GM w p g rank small ranked ps (fs ++ [x]) pv (.slice (some ⟨fb, 0, none⟩) (fs.length + 1) cap)) (lo : Int) :
    GM (w.setCell ⟨fb, fs.length * 4 + 2, none⟩ (.int .i32 lo)) p g rank small ranked ps (fs ++ [⟨x.a, x.l, x.c, ⟨x.fr.ids, x.fr.node, lo, x.fr.small⟩⟩]) pv (.slice (some ⟨fb, 0, none⟩) (fs.length + 1) cap) ∧ But (fun k => k = fb) w (w.setCell ⟨fb, fs.length * 4 + 2, none⟩ (.int .i32 lo)) := by
  have hll : ∀ z : FM, (fs ++ [z]).length = fs.length + 1 := fun z => by simp
  have h' := h
  rw [← hll x] at h'
  have hok := h.fok x (by simp)
  have := (h'.fset (A := fs) (C := []) (x' := ⟨x.a, x.l, x.c, ⟨x.fr.ids, x.fr.node, lo, x.fr.small⟩⟩) rfl 2 (by omega) (.int .i32 lo) (by simp [fcells]) { ids := hok.ids, nil := hok.nil, cap := hok.cap, not := hok.not, big := hok.big, idw := hok.idw }).1
  rw [hll] at this
  exact ⟨this, (But.refl (fun k => k = fb) w).setCell (p := ⟨fb, fs.length * 4 + 2, none⟩) (Or.inl rfl) _⟩

theorem GM.parent3 (h : GM w p g rank small ranked ps (fs ++ [x]) pv (.slice (some ⟨fb, 0, none⟩) (fs.length + 1) cap)) (sm : Int) :
    GM (w.setCell ⟨fb, fs.length * 4 + 3, none⟩ (.int .i32 sm)) p g rank small ranked ps (fs ++ [⟨x.a, x.l, x.c, ⟨x.fr.ids, x.fr.node, x.fr.low, sm⟩⟩]) pv (.slice (some ⟨fb, 0, none⟩) (fs.length + 1) cap) ∧ But (fun k => k = fb) w (w.setCell ⟨fb, fs.length * 4 + 3, none⟩ (.int .i32 sm)) := by
  have hll : ∀ z : FM, (fs ++ [z]).length = fs.length + 1 := fun z => by simp
  have h' := h
  rw [← hll x] at h'
  have hok := h.fok x (by simp)
  have := (h'.fset (A := fs) (C := []) (x' := ⟨x.a, x.l, x.c, ⟨x.fr.ids, x.fr.node, x.fr.low, sm⟩⟩) rfl 3 (by omega) (.int .i32 sm) (by simp [fcells]) { ids := hok.ids, nil := hok.nil, cap := hok.cap, not := hok.not, big := hok.big, idw := hok.idw }).1
  rw [hll] at this
  exact ⟨this, (But.refl (fun k => k = fb) w).setCell (p := ⟨fb, fs.length * 4 + 3, none⟩) (Or.inl rfl) _⟩
end

theorem fz_of {w : World} {p : GP} {g : T.Gr} {rank small : Nat → Int} {ranked : Nat} {ps : List Nat} {fs : List FM} {pv : Value} {fb cap : Nat} {x : FM} (h : GM w p g rank small ranked ps (fs ++ [x]) pv (.slice (some ⟨fb, 0, none⟩) (fs.length + 1) cap)) : ∀ j, w.frozen? ⟨fb, j, none⟩ = false := by
  have hll : (fs ++ [x]).length = fs.length + 1 := by simp
  rw [← hll] at h
  exact h.ffz

theorem fb_dyn {w w' : World} {p : GP} {g : T.Gr} {rank small : Nat → Int} {ranked : Nat} {ps : List Nat} {fs : List FM} {pv : Value} {fb cap : Nat} {x : FM} (h : GM w p g rank small ranked ps (fs ++ [x]) pv (.slice (some ⟨fb, 0, none⟩) (fs.length + 1) cap)) (hb : But (fun k => k = fb) w w') : But (Dyn p) w w' :=
  hb.mono (fun k _ e => Or.inr (Or.inr (by rw [e]; exact (h.frames.lt fb rfl).1)))

/-- the walk's state at a round's head -/
def WR (p : GP) (g : T.Gr) (rank0 : Nat → Int) (Z : Nat → Prop) (w : World) (k : Nat) (wr : World) : Prop :=
  ∃ rank small ranked stk fs pv fv, T.WS g rank0 Z rank small ranked stk ∧ Fits fs stk ∧ GM wr p g rank small ranked (T.pend stk) fs pv fv ∧ But (Dyn p) w wr ∧ T.mu g rank stk ≤ k

theorem WR.open {p : GP} {g : T.Gr} {rank0 : Nat → Int} {Z : Nat → Prop} {w wr : World} {k : Nat} (h : WR p g rank0 Z w k wr) : ∃ rank small ranked stk fs pv fv, T.WS g rank0 Z rank small ranked stk ∧ Fits fs stk ∧ GM wr p g rank small ranked (T.pend stk) fs pv fv ∧ But (Dyn p) w wr ∧ T.mu g rank stk ≤ k := h

set_option maxRecDepth 100000 in
set_option maxHeartbeats 1600000 in
theorem walk_any (p : GP) (g : T.Gr) (rank small : Nat → Int) (ranked : Nat) (pv fv : Value) (y : Nat) (Z : Nat → Prop) (w : World) (hy : y < g.n) (h0 : rank y = 0) (hc : T.Core g rank small ranked []) (hv : T.Vis g rank Z) (hz : ∃ z, Z z ∧ T.Reach g z y)
    (h : GM w p g rank small ranked [] [] pv fv) :
    Calls Ybad.prog 12 #[.pointer (some ⟨p.gb, 0, none⟩), .int .i32 (y : Int)] w fun e w' => e = .returned (.tuple #[]) ∧ But (Dyn p) w w' ∧
      ∃ rank' small' ranked' pv' fv', GM w' p g rank' small' ranked' [] [] pv' fv' ∧ T.Core g rank' small' ranked' [] ∧ T.Vis g rank' Z ∧ ∀ v, v = y ∨ rank v ≠ 0 → rank' v ≠ 0 := by
  have hn := hc.lim
  obtain ⟨W1, hr, hh, hmu⟩ := T.enter_ws (rank0 := rank) (Z := Z) (stk := []) (y := y) hc trivial hv (fun _ h => h) hy h0 (fun p hp => by cases hp) hz
  have W2 : T.WS g (fun v => if v = y then ((ranked + 1 : Nat) : Int) else rank v) Z (fun v => if v = y then ((ranked + 1 : Nat) : Int) else rank v) small (ranked + 1) [(⟨g.ids y, y, ((ranked + 1 : Nat) : Int), small y⟩, [y])] := ⟨W1.core, W1.stk, W1.vis, fun _ h => h⟩
  have HW := hide W2
  have HH := hide h
  obtain ⟨rank0, hr0, HK⟩ : ∃ r0 : Nat → Int, Hid (r0 = fun v => if v = y then ((ranked + 1 : Nat) : Int) else rank v) ∧ Hid (∀ v, v = y ∨ rank v ≠ 0 → r0 v ≠ 0) := by
    refine ⟨_, rfl, ?_⟩
    intro v hv
    by_cases e : v = y
    · simp only [if_pos e]; omega
    · simp only [if_neg e]; rcases hv with hv | hv; exact absurd hv e; exact hv
  clear W1 W2 h hc hv hz hmu
  go_enter Ybad.func12, Ybad.ntmps12
  go_wp2_with (go_at_call 14; refine (enter_any p g rank small ranked [] [] pv fv y w hy hh hr (by simp) (by simp) HH.out).mono ?_; rintro e w' ⟨rfl, hb, pv', fv', hG⟩)
  have HR := hide (show WR p g (fun v => if v = y then ((ranked + 1 : Nat) : Int) else rank v) Z w (T.mu g (fun v => if v = y then ((ranked + 1 : Nat) : Int) else rank v) [(⟨g.ids y, y, ((ranked + 1 : Nat) : Int), small y⟩, [y])]) w' from ⟨_, _, _, _, _, _, _, HW.out, Fits.push (fs := []) (stk := []) rfl rfl, hG, hb, Nat.le_refl _⟩)
  clear hb hG HW HH
  rw [← hr0.out] at HR
  clear hr0
  generalize T.mu g rank0 [(⟨g.ids y, y, ((ranked + 1 : Nat) : Int), small y⟩, [y])] = n0 at HR
  go_loopg [4] n0 (fun k _ wr => Hid (WR p g rank0 Z w k wr))
  case atStart => exact HR
  case round =>
    obtain ⟨rank1, small1, ranked1, stk, fs, pv1, fv1, hWS, hF, hG, hB, hmu⟩ := hrel.out.open
    clear hrel HR
    cases stk with
    | nil =>
      have hfs : fs = [] := by have := hF.len; cases fs with | nil => rfl | cons _ _ => simp at this
      subst hfs
      obtain ⟨fa, fc, rfl⟩ := own_shape hG.frames
      have c4 := hG.dy.c4
      simp only [List.length_nil] at c4
      have E := hide (⟨hB, rank1, small1, ranked1, pv1, _, hG, hWS.core, hWS.vis, fun v hv => hWS.kept v (HK.out v hv)⟩ : But (Dyn p) w wr ∧ ∃ rank' small' ranked' pv' fv', GM wr p g rank' small' ranked' [] [] pv' fv' ∧ T.Core g rank' small' ranked' [] ∧ T.Vis g rank' Z ∧ ∀ v, v = y ∨ rank v ≠ 0 → rank' v ≠ 0)
      clear hWS hF hG hB hmu HK
      go_wp2
      refine bodyPost_end (results_none rfl _ _ _) rfl ⟨rfl, E.out⟩
    | cons top stk =>
      obtain ⟨f, s⟩ := top
      obtain ⟨fs0, x, rfl, rfl, hF0⟩ := hF.top
      obtain ⟨a, l, c, ids, v, lo, sm⟩ := x
      have hll : (fs0 ++ [(⟨a, l, c, ⟨ids, v, lo, sm⟩⟩ : FM)]).length = fs0.length + 1 := by simp
      obtain ⟨fb, cap, rfl⟩ := own_form hG.frames (by simp)
      rw [hll] at hG
      have c4 := hG.dy.c4
      have hlens := hWS.lens
      have hfc : fs0.length + 1 ≤ cap := by have := hG.frames; rw [hll] at this; exact own_cap this
      have hq : fs0.length ≤ 300 := by have := hF0.len; have := hlens.2; simp at this; omega
      rcases hfo : T.fol g.n rank1 small1 ids lo sm with ⟨o, lo', sm'⟩
      cases o with
      | some yr =>
        obtain ⟨z, r⟩ := yr
        obtain ⟨hzn, W2, hr2, hhz, hmu2⟩ := hWS.some hfo
        have HG := hide hG
        have HF := hide hfo
        have HB := hide hB
        have HS := hide (And.intro W2 (And.intro hF0 (Nat.lt_of_lt_of_le hmu2 hmu)))
        have hp3 := hlens.1
        have hq2 : fs0.length + 2 ≤ 300 := by have := hF0.len; have := W2.lens.2; simp at this; omega
        clear hG hfo hB W2 hF0 hmu2 hmu hWS hF hlens hll HK
        generalize hps : T.pend ((⟨ids, v, lo, sm⟩, s) :: stk) = ps at *
        have HPS := hide hps
        clear hps
        go_wp2_with (first | (go_at_call 15; refine (follow_some p g rank1 small1 ranked1 _ fs0 a l c ids v lo sm pv1 fb cap wr hn HG.out HF.out).mono ?_; rintro e w1 ⟨rfl, hb1, a', l', c', hG1⟩) | fail)
        have E := hide (enter_any p g rank1 small1 ranked1 ps (fs0 ++ [⟨a', l', c', ⟨r, v, lo', sm'⟩⟩]) pv1 (.slice (some ⟨fb, 0, none⟩) (fs0.length + 1) cap) z w1 hzn hhz hr2 hp3 (by simp; omega) hG1)
        have HB1 := hide hb1
        clear hG1 hb1
        refine E.out.mono ?_
        rintro e w2 ⟨rfl, hb2, pv2, fv2, hG2⟩
        have hp : T.pend ((⟨g.ids z, z, ((ranked1 + 1 : Nat) : Int), small1 z⟩, [z]) :: (⟨r, v, lo', sm'⟩, s) :: stk) = ps ++ [z] := by rw [← HPS.out]; rfl
        rw [← hp] at hG2
        have HR2 : Hid (WR p g rank0 Z w (T.mu g (fun v => if v = z then ((ranked1 + 1 : Nat) : Int) else rank1 v) ((⟨g.ids z, z, ((ranked1 + 1 : Nat) : Int), small1 z⟩, [z]) :: (⟨r, v, lo', sm'⟩, s) :: stk)) w2) := by
          refine ⟨_, _, _, _, _, _, _, HS.out.1, ?_, hG2, (HB.out.trans HB1.out).trans hb2, Nat.le_refl _⟩
          exact Fits.push (Fits.push HS.out.2.1 rfl) rfl
        clear hp
        have HM := hide HS.out.2.2
        clear hG2 hb2 HS E HB HB1 HG HF HPS
        go_wp2
        go_roundg (T.mu g (fun v => if v = z then ((ranked1 + 1 : Nat) : Int) else rank1 v) ((⟨g.ids z, z, ((ranked1 + 1 : Nat) : Int), small1 z⟩, [z]) :: (⟨r, v, lo', sm'⟩, s) :: stk))
        case measure => exact HM.out
        case rel => exact HR2
      | none =>
        have W2 := hWS.none hfo
        obtain ⟨t, hs, hvt, hlt, hvn⟩ := W2.seg
        simp only at hs hvt hlt hvn
        subst hs
        obtain ⟨pb, pcap, rfl⟩ := own_form hG.pend (by simp [T.pend]; omega)
        have hG : GM wr p g rank1 small1 ranked1 (T.pend stk ++ v :: t) (fs0 ++ [⟨a, l, c, ⟨ids, v, lo, sm⟩⟩]) (.slice (some ⟨pb, 0, none⟩) (T.pend stk ++ v :: t).length pcap) (.slice (some ⟨fb, 0, none⟩) (fs0.length + 1) cap) := hG
        have hl3 : (T.pend stk ++ v :: t).length ≤ 300 := hlens.1
        have HG := hide hG
        have HF := hide hfo
        have HB := hide hB
        have HS := hide (And.intro W2 (And.intro hF0 hmu))
        clear hG hfo hB W2 hF0 hmu hWS hF hlens hll
        go_wp2_with (go_at_call 15; refine (follow_none p g rank1 small1 ranked1 _ fs0 a l c ids v lo sm _ fb cap wr hn HG.out HF.out).mono ?_; rintro e w1 ⟨rfl, hb1, a', l', c', hG1⟩; have HG1 := hide hG1; have HB1 := hide hb1; clear hG1 hb1; obtain ⟨d0, d1, d2, d3, d4, d5, d6⟩ := pop_facts HG1.out)
        obtain ⟨G2, B2, C2⟩ := HG1.out.popF
        have e1 := C2 1 _ rfl
        have e2 := C2 2 _ rfl
        have e3 := C2 3 _ rfl
        simp only at e1 e2 e3 G2 B2
        have hcb : p.B ≤ w1.heap.size := HG1.out.st.sz
        have hfbl : fb < w1.heap.size := (HG1.out.frames.lt fb rfl).2
        have HG2 := hide G2
        have HB2 := hide ((HB.out.trans HB1.out).trans B2)
        clear d0 d1 d2 d3 d4 d5 d6 G2 B2 C2 HG1 HB1 HG HB HF c4
        generalize (w1.alloc (.cells #[.slice a' l' c', .int .i32 (v : Int), .int .i32 lo', .int .i32 sm'] 56)).setCell ⟨p.gb, 4, none⟩ (.slice (some ⟨fb, 0, none⟩) fs0.length cap) = w2 at HG2 HB2 e1 e2 e3 ⊢
        generalize w1.heap.size = cb at hcb hfbl e1 e2 e3 ⊢
        have HFB : Hid (¬ cb = fb) := by unfold Hid; omega
        have hcg : cb ≠ p.gb ∧ cb ≠ p.nb := by have := HG2.out.st.gB; have := HG2.out.st.nB; omega
        clear hcb hfbl
        have HQ : Hid (fs0.length = fs0.length) := rfl
        generalize hqq : fs0.length = q at HG2 hq hfc ⊢
        have hqq' := hide hqq
        clear hqq HQ
        have c1 := HG2.out.dy.c1
        have rk := HG2.out.dy.rk v hvn
        cases stk with
        | nil =>
          have hfs : fs0 = [] := by have := HS.out.2.1.len; cases fs0 with | nil => rfl | cons _ _ => simp at this
          subst hfs
          have hq0 : q = 0 := hqq'.out.symm
          subst hq0
          have hlo : lo' = rank1 v := by
            by_cases e : lo' = rank1 v
            · exact e
            · exact absurd rfl (HS.out.1.merge rfl e).1
          have HP := hide (HS.out.1.pop rfl hlo)
          have HM := hide HS.out.2.2
          rw [← hlo] at rk
          go_region
          go_wp2_with (go_at_call 16; refine (close_any p g rank1 small1 ranked1 (T.pend []) v t [] pb pcap _ sm' _ hl3 hvt hlt HG2.out.drew).mono ?_; rintro e w3 ⟨rfl, hb3, hG3⟩)
          have HB3 := hide (HB2.out.trans (two_dyn hb3.undrew))
          have HG3 := hide hG3
          clear hb3 hG3
          go_roundg (T.mu g (fun u => if u ∈ v :: t then T.MX else rank1 u) [])
          case measure => exact Nat.lt_of_lt_of_le HP.out.2 (Nat.le_trans (by simp [T.mu, T.frs]) HM.out)
          case rel => exact ⟨_, _, _, [], [], _, _, HP.out.1, rfl, HG3.out, HB3.out, Nat.le_refl _⟩
        | cons pt stk =>
          obtain ⟨pf, sp⟩ := pt
          obtain ⟨fs1, xp, rfl, rfl, hF1⟩ := HS.out.2.1.top
          obtain ⟨pa, pl, pc, pids, pnode, plo, psm⟩ := xp
          have hq1 : q = fs1.length + 1 := by rw [← hqq'.out]; simp
          subst hq1
          have HF1 := hide hF1
          clear hF1
          by_cases hlo : lo' = rank1 v
          · have HP := hide (HS.out.1.pop rfl hlo)
            have HM := hide HS.out.2.2
            rw [← hlo] at rk
            clear hlo
            go_region
            go_wp2_with (go_at_call 16; refine (close_any p g rank1 small1 ranked1 (T.pend ((⟨pids, pnode, plo, psm⟩, sp) :: stk)) v t (fs1 ++ [⟨pa, pl, pc, ⟨pids, pnode, plo, psm⟩⟩]) pb pcap _ sm' _ hl3 hvt hlt HG2.out.drew).mono ?_; rintro e w3 ⟨rfl, hb3, hG3⟩; have m2 := hb3.cellSome (p := ⟨cb, 2, none⟩) e2 (by intro e; rcases e with e | e; exact hcg.1 e; exact hcg.2 e); have m3 := hb3.cellSome (p := ⟨cb, 3, none⟩) e3 (by intro e; rcases e with e | e; exact hcg.1 e; exact hcg.2 e); have HB3 := hide (HB2.out.trans (two_dyn hb3.undrew)); have HG3 := hide hG3; have HZ3 := hide (fz_of hG3); clear hb3 hG3; obtain ⟨k0, k1, k2, k3, k4, _, _⟩ := pop_facts HG3.out; have kz := HZ3.out)
            try simp only at k1 k2 k3 k4
            go_region
            have P4 := HG3.out.parent (min plo lo')
            try simp only at P4
            rw [min_if]
            have x2 : (w3.setCell ⟨fb, fs1.length * 4 + 2, none⟩ (.int .i32 (min plo lo'))).drew.cell? ⟨cb, 3, none⟩ = some (.int .i32 sm') := P4.2.cellSome m3 (fun e => HFB.out e)
            have HG4 := hide P4.1.drew
            have HB4 := hide (fb_dyn HG3.out P4.2).drew
            clear P4 HG3 k0 k1 k2 k3 k4 kz m2 m3 HZ3
            generalize (w3.setCell ⟨fb, fs1.length * 4 + 2, none⟩ (.int .i32 (min plo lo'))).drew = w4 at HG4 HB4 x2 ⊢
            obtain ⟨k0, k1, k2, k3, k4, _, _⟩ := pop_facts HG4.out
            try simp only at k1 k2 k3 k4
            have kz := fz_of HG4.out
            go_wp2
            go_region
            have P5 := HG4.out.parent3 (min psm sm')
            try simp only at P5
            rw [min_if]
            have HG5 := hide P5.1.drew
            have HB5 := hide (fb_dyn HG4.out P5.2).drew
            clear P5 HG4 k0 k1 k2 k3 k4 kz x2
            generalize (w4.setCell ⟨fb, fs1.length * 4 + 3, none⟩ (.int .i32 (min psm sm'))).drew = w5 at HG5 HB5 ⊢
            have hp : T.pend (T.upd ⟨[], v, lo', sm'⟩ [] ((⟨pids, pnode, plo, psm⟩, sp) :: stk)) = T.pend ((⟨pids, pnode, plo, psm⟩, sp) :: stk) := T.pend_upd_nil _ _
            have HR5 : Hid (WR p g rank0 Z w (T.mu g (fun u => if u ∈ v :: t then T.MX else rank1 u) (T.upd ⟨[], v, lo', sm'⟩ [] ((⟨pids, pnode, plo, psm⟩, sp) :: stk))) w5) := by
              refine ⟨_, _, _, _, _, _, _, HP.out.1, ?_, by rw [hp]; exact HG5.out, (HB3.out.trans HB4.out).trans HB5.out, Nat.le_refl _⟩
              exact Fits.push HF1.out rfl
            clear hp HG5
            go_wp2
            go_roundg (T.mu g (fun u => if u ∈ v :: t then T.MX else rank1 u) (T.upd ⟨[], v, lo', sm'⟩ [] ((⟨pids, pnode, plo, psm⟩, sp) :: stk)))
            case measure => exact Nat.lt_of_lt_of_le HP.out.2 (Nat.le_trans (by simp [T.mu, T.frs]) HM.out)
            case rel => exact HR5
          · obtain ⟨_, hW, hM, hPe⟩ := HS.out.1.merge rfl hlo
            have HP := hide (And.intro hW (And.intro hM hPe))
            have HM := hide HS.out.2.2
            clear hW hM hPe
            go_region
            have HG3 := hide HG2.out.drew
            have HB3 := hide HB2.out.drew
            have m2 : w2.drew.cell? ⟨cb, 2, none⟩ = some (.int .i32 lo') := e2
            have m3 : w2.drew.cell? ⟨cb, 3, none⟩ = some (.int .i32 sm') := e3
            have HZ3 := hide (fz_of HG3.out)
            clear HG2 HB2 e1 e2 e3 c1 rk
            generalize w2.drew = w3 at HG3 HB3 m2 m3 HZ3 ⊢
            obtain ⟨k0, k1, k2, k3, k4, _, _⟩ := pop_facts HG3.out
            have kz := HZ3.out
            go_wp2
            try simp only at k1 k2 k3 k4
            go_region
            have P4 := HG3.out.parent (min plo lo')
            try simp only at P4
            rw [min_if]
            have x2 : (w3.setCell ⟨fb, fs1.length * 4 + 2, none⟩ (.int .i32 (min plo lo'))).drew.cell? ⟨cb, 3, none⟩ = some (.int .i32 sm') := P4.2.cellSome m3 (fun e => HFB.out e)
            have HG4 := hide P4.1.drew
            have HB4 := hide (fb_dyn HG3.out P4.2).drew
            clear P4 HG3 k0 k1 k2 k3 k4 kz m2 m3 HZ3
            generalize (w3.setCell ⟨fb, fs1.length * 4 + 2, none⟩ (.int .i32 (min plo lo'))).drew = w4 at HG4 HB4 x2 ⊢
            obtain ⟨k0, k1, k2, k3, k4, _, _⟩ := pop_facts HG4.out
            try simp only at k1 k2 k3 k4
            have kz := fz_of HG4.out
            go_wp2
            go_region
            have P5 := HG4.out.parent3 (min psm sm')
            try simp only at P5
            rw [min_if]
            have HG5 := hide P5.1.drew
            have HB5 := hide (fb_dyn HG4.out P5.2).drew
            clear P5 HG4 k0 k1 k2 k3 k4 kz x2
            generalize (w4.setCell ⟨fb, fs1.length * 4 + 3, none⟩ (.int .i32 (min psm sm'))).drew = w5 at HG5 HB5 ⊢
            have HR5 : Hid (WR p g rank0 Z w (T.mu g rank1 (T.upd ⟨[], v, lo', sm'⟩ (v :: t) ((⟨pids, pnode, plo, psm⟩, sp) :: stk))) w5) := by
              refine ⟨_, _, _, _, _, _, _, HP.out.1, ?_, by rw [HP.out.2.2]; exact HG5.out, (HB3.out.trans HB4.out).trans HB5.out, Nat.le_refl _⟩
              exact Fits.push HF1.out rfl
            clear HG5
            go_wp2
            go_roundg (T.mu g rank1 (T.upd ⟨[], v, lo', sm'⟩ (v :: t) ((⟨pids, pnode, plo, psm⟩, sp) :: stk)))
            case measure => exact Nat.lt_of_lt_of_le HP.out.2.1 (Nat.le_trans (by simp [T.mu, T.frs]) HM.out)
            case rel => exact HR5
end Go.Proofs.YbulkcawkDoor.D
