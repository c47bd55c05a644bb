import Derived.Test.YbulkcawkDoorWalks2
namespace Go.Proofs.YbulkcawkDoor.T

/-- what following the edges comes to: the node not come to yet and what is left behind it, the least rank, the least input -/
def fol (n : Nat) (rank small : Nat → Int) : List Int → Int → Int → Option (Nat × List Int) × Int × Int
  | [], lo, sm => (none, lo, sm)
  | id :: r, lo, sm =>
    if 0 ≤ id ∧ id < (n : Int) then
      if rank id.toNat = 0 then (some (id.toNat, r), lo, sm) else fol n rank small r (min lo (rank id.toNat)) (min sm (small id.toNat))
    else fol n rank small r lo sm

theorem fol_ok {g : Gr} {rank small : Nat → Int} {ranked : Nat} {below s : List Nat} {v : Nat} (hc : Core g rank small ranked (below ++ s)) : ∀ (ids : List Int) (lo sm : Int), FrOK g rank small below none ⟨ids, v, lo, sm⟩ s →
    (∀ lo' sm', fol g.n rank small ids lo sm = (none, lo', sm') → FrOK g rank small below none ⟨[], v, lo', sm'⟩ s) ∧
    ∀ y r lo' sm', fol g.n rank small ids lo sm = (some (y, r), lo', sm') → FrOK g rank small below (some y) ⟨r, v, lo', sm'⟩ s ∧ Edge g v y ∧ y < g.n ∧ rank y = 0 ∧ r.length < ids.length
  | [], lo, sm, h => ⟨fun _ _ e => by simp only [fol] at e; cases e; exact h, fun _ _ _ _ e => by simp only [fol] at e; cases e⟩
  | id :: r, lo, sm, h => by
    by_cases hi : 0 ≤ id ∧ id < (g.n : Int)
    · have e1 : id = ((id.toNat : Nat) : Int) := by omega
      have hlt : id.toNat < g.n := by omega
      by_cases h0 : rank id.toNat = 0
      · have e : fol g.n rank small (id :: r) lo sm = (some (id.toNat, r), lo, sm) := by simp only [fol, if_pos hi, if_pos h0]
        rw [e]
        refine ⟨(fun _ _ e => by cases e), fun y r' lo' sm' e => ?_⟩
        cases e
        rw [e1] at h
        exact ⟨fr_stop h, fr_edge h hlt, hlt, h0, by simp⟩
      · have e : fol g.n rank small (id :: r) lo sm = fol g.n rank small r (min lo (rank id.toNat)) (min sm (small id.toNat)) := by simp only [fol, if_pos hi, if_neg h0]
        rw [e]
        rw [e1] at h
        have := fol_ok hc r _ _ (fr_take hc h hlt h0)
        refine ⟨this.1, fun y r' lo' sm' e => ?_⟩
        have := this.2 y r' lo' sm' e
        exact ⟨this.1, this.2.1, this.2.2.1, this.2.2.2.1, by have := this.2.2.2.2; simp; omega⟩
    · have e : fol g.n rank small (id :: r) lo sm = fol g.n rank small r lo sm := by simp only [fol, if_neg hi]
      rw [e]
      have := fol_ok hc r _ _ (fr_skip h hi)
      refine ⟨this.1, fun y r' lo' sm' e => ?_⟩
      have := this.2 y r' lo' sm' e
      exact ⟨this.1, this.2.1, this.2.2.1, this.2.2.2.1, by have := this.2.2.2.2; simp; omega⟩

end Go.Proofs.YbulkcawkDoor.T
namespace Go.Proofs.YbulkcawkDoor.D
open Go.RowKit

theorem fcells_len : ∀ (fs : List FM), (fs.flatMap fcells).length = fs.length * 4
  | [] => rfl
  | x :: fs => by rw [List.flatMap_cons, List.length_append, fcells_len fs, List.length_cons]; simp [fcells]; omega

theorem set_tail {α : Type} (A B : List α) (k : Nat) (u : α) : (A ++ B).set (A.length + k) u = A ++ B.set k u := by
  rw [List.set_append_right _ _ (by omega)]
  congr 2
  omega

section
variable {w w' : World} {p : GP} {g : T.Gr} {rank small : Nat → Int} {ranked : Nat} {ps : List Nat} {fs : List FM} {x x' : FM} {pv : Value} {fb cap : Nat}

theorem GM.fB (h : GM w p g rank small ranked ps fs pv (.slice (some ⟨fb, 0, none⟩) fs.length cap)) : p.B ≤ fb ∧ fb < w.heap.size := h.frames.lt fb rfl

/-- the frame k, its field j -/
theorem GM.fcell (h : GM w p g rank small ranked ps fs pv (.slice (some ⟨fb, 0, none⟩) fs.length cap)) {A C : List FM} (e : fs = A ++ x :: C) (j : Nat) (hj : j < 4) : w.cell? ⟨fb, A.length * 4 + j, none⟩ = (fcells x)[j]? := by
  have hl : fs.length = A.length + 1 + C.length := by rw [e]; simp; omega
  rw [h.frames.cellAt (A.length * 4 + j) (by omega), e, List.flatMap_append, List.getElem?_append_right (by rw [fcells_len]; omega), fcells_len, List.flatMap_cons, List.getElem?_append_left (by simp [fcells]; omega)]
  congr 1
  omega

/-- a field of frame k is written -/
theorem GM.fset (h : GM w p g rank small ranked ps fs pv (.slice (some ⟨fb, 0, none⟩) fs.length cap)) {A C : List FM} (e : fs = A ++ x :: C) (j : Nat) (hj : j < 4) (u : Value) (hx : (fcells x).set j u = fcells x') (hok : FMok w p x') :
    GM (w.setCell ⟨fb, A.length * 4 + j, none⟩ u) p g rank small ranked ps (A ++ x' :: C) pv (.slice (some ⟨fb, 0, none⟩) (A ++ x' :: C).length cap) ∧ But (Dyn p) w (w.setCell ⟨fb, A.length * 4 + j, none⟩ u) := by
  obtain ⟨hB, hlt⟩ := h.fB
  have hb : But (fun k => k = fb) w (w.setCell ⟨fb, A.length * 4 + j, none⟩ u) := (But.refl (fun k => k = fb) w).setCell (p := ⟨fb, A.length * 4 + j, none⟩) (Or.inl rfl) u
  have hb1 : But (Dyn p) w (w.setCell ⟨fb, A.length * 4 + j, none⟩ u) := hb.mono (fun k _ ek => Or.inr (Or.inr (by rw [ek]; exact hB)))
  have hgB := h.st.gB
  have hnB := h.st.nB
  have hll : (A ++ x' :: C).length = fs.length := by rw [e]; simp
  rw [hll]
  refine ⟨{ st := h.st.but hb1, dy := h.dy.but hb (by show ¬ p.gb = fb; omega) (by show ¬ p.nb = fb; omega) h.lt.1 h.lt.2.1, pend := ?_, frames := ?_, fok := ?_ }, hb1⟩
  · refine own_but h.pend hb ?_
    intro k hk ek
    rcases own_ne h.pend h.frames (by decide) with h1 | h1
    · rw [hk] at h1; cases h1
    · exact h1 (by rw [hk, ek]; rfl)
  · have := (h.frames.stored (A.length * 4 + j) u).1
    rw [hll]
    have e2 : (fs.flatMap fcells).set (A.length * 4 + j) u = (A ++ x' :: C).flatMap fcells := by
      rw [e, List.flatMap_append, List.flatMap_append, ← fcells_len A, set_tail, List.flatMap_cons, List.flatMap_cons, List.set_append_left _ _ (by simp [fcells]; omega), hx]
    rw [e2] at this
    exact this
  · intro z hz
    rcases List.mem_append.1 hz with hz | hz
    · exact (h.fok z (by rw [e]; exact List.mem_append.2 (Or.inl hz))).but hb1
    · rcases List.mem_cons.1 hz with rfl | hz
      · exact hok.but hb1
      · exact (h.fok z (by rw [e]; exact List.mem_append.2 (Or.inr (List.mem_cons_of_mem _ hz)))).but hb1

theorem GM.ffz (h : GM w p g rank small ranked ps fs pv (.slice (some ⟨fb, 0, none⟩) fs.length cap)) (j : Nat) : w.frozen? ⟨fb, j, none⟩ = false := h.frames.frozenAt j

end
end Go.Proofs.YbulkcawkDoor.D
