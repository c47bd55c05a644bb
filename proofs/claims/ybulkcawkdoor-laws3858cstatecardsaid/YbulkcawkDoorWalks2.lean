import Derived.Test.YbulkcawkDoorMem
namespace Go.Proofs.YbulkcawkDoor.D
open Go.RowKit

theorem one_int (w : World) (k : IntKind) (t : TypeId) (x : Int) : ∀ (j : Nat) (u : Value), [Value.int k x][j]? = some u → (w.alloc (.cells #[.int k x] t)).cell? ((⟨w.heap.size, 0, none⟩ : Addr).add j) = some u := by
  intro j u hj
  match j, hj with
  | 0, hj => simp at hj; subst hj; simp [Addr.add]

theorem one_cell (k : IntKind) (x : Int) : ∀ u ∈ [Value.int k x], u.oneCell' = true := by
  intro u hu; simp at hu; subst hu; rfl

theorem own_shape {w : World} {B e s : Nat} {v : Value} {n : Nat} {xs : List Value} (h : w.ownsRow B e s v n xs) : ∃ a c, v = .slice a n c := by
  rcases h.2 with ⟨rfl, rfl⟩ | ⟨g, cap, cur, rfl, _⟩
  · exact ⟨none, 0, rfl⟩
  · exact ⟨_, cap, rfl⟩

theorem dyn_own {p : GP} {w : World} {e s n : Nat} {v : Value} {xs : List Value} (h : w.ownsRow p.B e s v n xs) : ∀ k, v.ownBlock = some k → Dyn p k ∨ w.heap.size ≤ k := fun k hk => Or.inl (Or.inr (Or.inr (h.lt k hk).1))

section
variable {w w' w'' : World} {p : GP} {g : T.Gr} {rank small rank' small' : Nat → Int} {ranked ranked' : Nat} {ps : List Nat} {fs : List FM} {pv fv : Value}

theorem GM.lt (h : GM w p g rank small ranked ps fs pv fv) : p.gb < w.heap.size ∧ p.nb < w.heap.size ∧ p.sb < w.heap.size := by
  have h1 := h.st.gB; have h2 := h.st.nB; have h3 := h.st.sB; have h4 := h.st.sz
  exact ⟨by omega, by omega, by omega⟩

/-- the graph's own cells or the records have been written -/
theorem GM.re (h : GM w p g rank small ranked ps fs pv fv) (hb : But (fun k => k = p.gb ∨ k = p.nb) w w') (hd : Dy w' p g.n rank' small' ranked' pv fv) : GM w' p g rank' small' ranked' ps fs pv fv := by
  have hb' : But (Dyn p) w w' := hb.mono (fun k _ e => by rcases e with e | e; exact Or.inl e; exact Or.inr (Or.inl e))
  have hk : ∀ k, p.B ≤ k → ¬ (k = p.gb ∨ k = p.nb) := fun k hk e => by have := h.st.gB; have := h.st.nB; omega
  exact { st := h.st.but hb', dy := hd, pend := own_but h.pend hb (fun k e => hk k (h.pend.lt k e).1), frames := own_but h.frames hb (fun k e => hk k (h.frames.lt k e).1), fok := fun x hx => (h.fok x hx).but hb' }

theorem GM.drew (h : GM w p g rank small ranked ps fs pv fv) : GM w.drew p g rank small ranked ps fs pv fv := h.re (But.refl _ _).drew h.dy.drew

/-- new blocks alone -/
theorem GM.below (h : GM w p g rank small ranked ps fs pv fv) (hb : Below w.heap.size w w') : GM w' p g rank small ranked ps fs pv fv :=
  h.re (But.ofBelow hb) (h.dy.but (S := fun _ => False) (But.ofBelow hb) id id h.lt.1 h.lt.2.1)

theorem grown_but {w w' : World} {p : GP} {wa : World} {row : Option Nat} (ha : Below w.heap.size w wa) (hg : wa.grownBy w' row) (hr : ∀ k, row = some k → p.B ≤ k) : But (fun k => p.B ≤ k) w w' :=
  (But.ofBelow (S := fun k => p.B ≤ k) ha).grown hg (fun k e => Or.inl (hr k e))

/-- behind an append to the pending nodes -/
theorem pend_push (h : GM w p g rank small ranked ps fs pv fv) {wa : World} {pv' : Value} {y : Nat} (ha : Below w.heap.size w wa) (hown : w'.ownsRow p.B 21 1 pv' (ps.length + 1) ((ps.map fun v : Nat => Value.int .i32 (v : Int)) ++ [.int .i32 (y : Int)])) (hg : wa.grownBy w' pv.ownBlock) :
    GM (w'.setCell ⟨p.gb, 3, none⟩ pv') p g rank small ranked (ps ++ [y]) fs pv' fv ∧ But (Dyn p) w (w'.setCell ⟨p.gb, 3, none⟩ pv') ∧ Dy w' p g.n rank small ranked pv fv := by
  have hb := grown_but ha hg (fun k e => (h.pend.lt k e).1)
  have hgB := h.st.gB
  have hnB := h.st.nB
  have hd : Dy w' p g.n rank small ranked pv fv := h.dy.but hb (by show ¬ p.B ≤ p.gb; omega) (by show ¬ p.B ≤ p.nb; omega) h.lt.1 h.lt.2.1
  have hbD : But (Dyn p) w w' := hb.mono (fun k _ e => Or.inr (Or.inr e))
  have hb1 : But (Dyn p) w (w'.setCell ⟨p.gb, 3, none⟩ pv') := hbD.setCell (Or.inl (Or.inl rfl)) _
  have hfr : w'.ownsRow p.B 56 4 fv fs.length (fs.flatMap fcells) := by
    have h1 : wa.ownsRow p.B 56 4 fv fs.length (fs.flatMap fcells) := own_but h.frames (But.ofBelow (S := fun _ => False) ha) (fun _ _ => id)
    exact h1.kept hg (own_ne h.frames h.pend (by decide))
  refine ⟨{ st := h.st.but hb1, dy := hd.set3 h.st.gn _, pend := ?_, frames := ?_, fok := fun x hx => (h.fok x hx).but hb1 }, hb1, hd⟩
  · have := ownsRow_setCell_below hown (a := ⟨p.gb, 3, none⟩) hgB pv'
    simpa using this
  · exact ownsRow_setCell_below hfr (a := ⟨p.gb, 3, none⟩) hgB pv'

/-- behind an append to the frames -/
theorem frame_push (h : GM w p g rank small ranked ps fs pv fv) {wa : World} {fv' : Value} {x : FM} (ha : Below w.heap.size w wa) (hown : w'.ownsRow p.B 56 4 fv' (fs.length + 1) (fs.flatMap fcells ++ fcells x)) (hg : wa.grownBy w' fv.ownBlock) (hx : FMok w p x) :
    GM (w'.setCell ⟨p.gb, 4, none⟩ fv') p g rank small ranked ps (fs ++ [x]) pv fv' ∧ But (Dyn p) w (w'.setCell ⟨p.gb, 4, none⟩ fv') ∧ Dy w' p g.n rank small ranked pv fv ∧ Stat w' p g := by
  have hb := grown_but ha hg (fun k e => (h.frames.lt k e).1)
  have hgB := h.st.gB
  have hnB := h.st.nB
  have hd : Dy w' p g.n rank small ranked pv fv := h.dy.but hb (by show ¬ p.B ≤ p.gb; omega) (by show ¬ p.B ≤ p.nb; omega) h.lt.1 h.lt.2.1
  have hbD : But (Dyn p) w w' := hb.mono (fun k _ e => Or.inr (Or.inr e))
  have hb1 : But (Dyn p) w (w'.setCell ⟨p.gb, 4, none⟩ fv') := hbD.setCell (Or.inl (Or.inl rfl)) _
  have hpe : w'.ownsRow p.B 21 1 pv ps.length (ps.map fun v : Nat => Value.int .i32 (v : Int)) := by
    have h1 : wa.ownsRow p.B 21 1 pv ps.length (ps.map fun v : Nat => Value.int .i32 (v : Int)) := own_but h.pend (But.ofBelow (S := fun _ => False) ha) (fun _ _ => id)
    exact h1.kept hg (own_ne h.pend h.frames (by decide))
  refine ⟨{ st := h.st.but hb1, dy := hd.set4 h.st.gn _, pend := ?_, frames := ?_, fok := ?_ }, hb1, hd, h.st.but hbD⟩
  · exact ownsRow_setCell_below hpe (a := ⟨p.gb, 4, none⟩) hgB fv'
  · have := ownsRow_setCell_below hown (a := ⟨p.gb, 4, none⟩) hgB fv'
    simpa using this
  · intro z hz
    rcases List.mem_append.1 hz with hz | hz
    · exact (h.fok z hz).but hb1
    · simp at hz; subst hz; exact hx.but hb1
end

theorem four_new (w : World) (x : FM) : ∀ (j : Nat) (u : Value), (fcells x)[j]? = some u → (w.alloc (.cells #[.slice x.a x.l x.c, .int .i32 x.fr.node, .int .i32 x.fr.low, .int .i32 x.fr.small] 56)).cell? ((⟨w.heap.size, 0, none⟩ : Addr).add j) = some u := by
  intro j u hj
  have e : (⟨w.heap.size, 0, none⟩ : Addr).add j = ⟨w.heap.size, j, none⟩ := by simp only [Addr.add]; split <;> simp_all
  rw [e, World.cell?_alloc_new]
  simpa [fcells] using hj

theorem four_one (x : FM) : ∀ u ∈ fcells x, u.oneCell' = true := by
  intro u hu
  simp only [fcells, List.mem_cons, List.not_mem_nil, or_false] at hu
  rcases hu with rfl | rfl | rfl | rfl <;> rfl

theorem entered_ok {w : World} {p : GP} {g : T.Gr} {y : Nat} (h : Stat w p g) (hy : y < g.n) (hh : g.here y = true) (lo sm : Int) : FMok w p ⟨p.la y, p.ll y, p.lc y, ⟨g.ids y, y, lo, sm⟩⟩ :=
  { ids := (h.mids y hy hh).1, nil := (h.mids y hy hh).2.1, cap := (h.mids y hy hh).2.2, not := h.mnot y hy hh, big := h.big y hy, idw := h.idw y hy }

end Go.Proofs.YbulkcawkDoor.D
