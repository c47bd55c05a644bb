import Derived.Test.YbulkcawkDoorTop
namespace Go.Proofs.YbulkcawkDoor.T

theorem len_of_rank (f : Nat → Int) (R : Nat) : ∀ (l : List Nat) (a : Int), 0 ≤ a → (∀ x, x ∈ l → a < f x ∧ f x ≤ R) → l.Pairwise (fun x y => f x < f y) → (l.length : Int) ≤ (R : Int) - a ∨ l = []
  | [], _, _, _, _ => Or.inr rfl
  | x :: l, a, ha, h, hp => by
    rw [List.pairwise_cons] at hp
    have hx := h x List.mem_cons_self
    have := len_of_rank f R l (f x) (by omega) (fun y hy => ⟨hp.1 y hy, (h y (List.mem_cons_of_mem _ hy)).2⟩) hp.2
    left
    rcases this with h1 | h1
    · simp; omega
    · subst h1; simp; omega

section
variable {g : Gr} {rank small rank0 : Nat → Int} {ranked : Nat} {Z : Nat → Prop} {stk : List (Fr × List Nat)} {f : Fr} {s : List Nat}

theorem Core.len {ps : List Nat} (h : Core g rank small ranked ps) : ps.length ≤ g.n := by
  have hc := h.cnt
  have hl := count_le g rank
  rcases len_of_rank rank ranked ps 0 (Int.le_refl _) (fun x hx => by have := h.pin x hx; exact ⟨by omega, this.2.2.2⟩) h.sorted with h1 | h1
  · omega
  · subst h1; exact Nat.zero_le _

theorem stk_len : ∀ {stk : List (Fr × List Nat)} {nxt : Option Nat}, Stk g rank small nxt stk → stk.length ≤ (pend stk).length
  | [], _, _ => Nat.le_refl _
  | (f, s) :: r, _, h => by
    have := stk_len h.2.2
    obtain ⟨t, ht⟩ := h.1.head
    simp only [pend, List.length_append, List.length_cons, ht]
    omega

structure WS (g : Gr) (rank0 : Nat → Int) (Z : Nat → Prop) (rank small : Nat → Int) (ranked : Nat) (stk : List (Fr × List Nat)) : Prop where
  core : Core g rank small ranked (pend stk)
  stk : Stk g rank small none stk
  vis : Vis g rank Z
  kept : ∀ v, rank0 v ≠ 0 → rank v ≠ 0

def mu (g : Gr) (rank : Nat → Int) (stk : List (Fr × List Nat)) : Nat := unr g rank g.n + frs stk

theorem WS.lens (h : WS g rank0 Z rank small ranked stk) : (pend stk).length ≤ 300 ∧ stk.length ≤ 300 := by
  have h1 := h.core.len
  have h2 := stk_len h.stk
  have h3 := h.core.lim
  omega

theorem enter_ws {y : Nat} (hc : Core g rank small ranked (pend stk)) (hs : Stk g rank small (some y) stk) (hv : Vis g rank Z) (hk : ∀ v, rank0 v ≠ 0 → rank v ≠ 0) (hy : y < g.n) (h0 : rank y = 0) (hE : ∀ p, stk.head? = some p → Edge g p.1.node y) (hz : ∃ z, Z z ∧ Reach g z y) :
    WS g rank0 Z (fun v => if v = y then ((ranked + 1 : Nat) : Int) else rank v) small (ranked + 1) ((⟨g.ids y, y, ((ranked + 1 : Nat) : Int), small y⟩, [y]) :: stk) ∧ ranked < 300 ∧ g.here y = true ∧
      mu g (fun v => if v = y then ((ranked + 1 : Nat) : Int) else rank v) ((⟨g.ids y, y, ((ranked + 1 : Nat) : Int), small y⟩, [y]) :: stk) < mu g rank stk := by
  have hc' := enter_core hc hy h0 ⟨g.ids y, y, ((ranked + 1 : Nat) : Int), small y⟩
  have h1 := hc'.cnt
  have h2 := count_le g (fun v => if v = y then ((ranked + 1 : Nat) : Int) else rank v)
  have h3 := hc.lim
  refine ⟨⟨hc', enter_stk hc hs hy h0 hE, vis_enter hv hz, fun v hv => ?_⟩, by omega, ?_, ?_⟩
  · by_cases e : v = y
    · subst e; simp only [if_true]; omega
    · simp only [if_neg e]; exact hk v hv
  · rcases hc.all y hy with a | a | a
    · have := (hc.pin y a).2.2.1; omega
    · exact a.2
    · rw [h0] at a; exact absurd a (by decide)
  · unfold mu
    rw [unr_set g rank (fun v => if v = y then ((ranked + 1 : Nat) : Int) else rank v) y (fun v hv => by simp only [if_neg hv]) h0 (by simp only [if_true]; omega) g.n, if_pos hy]
    simp only [frs]
    omega

theorem WS.none (h : WS g rank0 Z rank small ranked ((f, s) :: stk)) {lo sm : Int} (e : fol g.n rank small f.ids f.low f.small = (none, lo, sm)) : WS g rank0 Z rank small ranked ((⟨[], f.node, lo, sm⟩, s) :: stk) :=
  ⟨h.core, ⟨(fol_ok (v := f.node) h.core f.ids f.low f.small h.stk.1).1 lo sm e, h.stk.2.1, h.stk.2.2⟩, h.vis, h.kept⟩

theorem WS.some (h : WS g rank0 Z rank small ranked ((f, s) :: stk)) {y : Nat} {r : List Int} {lo sm : Int} (e : fol g.n rank small f.ids f.low f.small = (some (y, r), lo, sm)) :
    y < g.n ∧ WS g rank0 Z (fun v => if v = y then ((ranked + 1 : Nat) : Int) else rank v) small (ranked + 1) ((⟨g.ids y, y, ((ranked + 1 : Nat) : Int), small y⟩, [y]) :: (⟨r, f.node, lo, sm⟩, s) :: stk) ∧ ranked < 300 ∧ g.here y = true ∧
      mu g (fun v => if v = y then ((ranked + 1 : Nat) : Int) else rank v) ((⟨g.ids y, y, ((ranked + 1 : Nat) : Int), small y⟩, [y]) :: (⟨r, f.node, lo, sm⟩, s) :: stk) < mu g rank ((f, s) :: stk) := by
  obtain ⟨h1, h2, h3, h4, h5⟩ := (fol_ok (v := f.node) h.core f.ids f.low f.small h.stk.1).2 y r lo sm e
  obtain ⟨t, ht⟩ := h.stk.1.head
  have hm : f.node ∈ pend ((f, s) :: stk) := by simp only [pend, List.mem_append]; right; rw [ht]; exact List.mem_cons_self
  have hp := h.core.pin f.node hm
  have hz : ∃ z, Z z ∧ Reach g z y := by
    obtain ⟨z, hz, hr⟩ := h.vis f.node hp.1 hp.2.1 (by omega)
    exact ⟨z, hz, hr.trans (Reach.edge h2)⟩
  have h6 := enter_ws (rank0 := rank0) (Z := Z) (stk := (⟨r, f.node, lo, sm⟩, s) :: stk) h.core ⟨h1, h.stk.2.1, h.stk.2.2⟩ h.vis h.kept h3 h4 (fun p hp => by cases hp; exact h2) hz
  refine ⟨h3, h6.1, h6.2.1, h6.2.2.1, Nat.lt_of_lt_of_le h6.2.2.2 ?_⟩
  unfold mu
  simp only [frs]
  omega

/-- what the top frame's segment is -/
theorem WS.seg (h : WS g rank0 Z rank small ranked ((f, s) :: stk)) : ∃ t, s = f.node :: t ∧ f.node ∉ t ∧ (∀ u, u ∈ f.node :: t → u < g.n) ∧ f.node < g.n := by
  obtain ⟨t, ht⟩ := h.stk.1.head
  have hso := h.core.sorted
  simp only [pend] at hso
  rw [List.pairwise_append, ht, List.pairwise_cons] at hso
  refine ⟨t, ht, fun hm => ?_, fun u hu => ?_, ?_⟩
  · have := hso.2.1.1 _ hm; omega
  · exact (h.core.pin u (by simp only [pend, List.mem_append]; right; rw [ht]; exact hu)).1
  · exact (h.core.pin f.node (by simp only [pend, List.mem_append]; right; rw [ht]; exact List.mem_cons_self)).1

theorem WS.pop (h : WS g rank0 Z rank small ranked ((f, s) :: stk)) (hi : f.ids = []) (hl : f.low = rank f.node) :
    WS g rank0 Z (fun v => if v ∈ s then MX else rank v) (fun v => if v ∈ s then f.small else small v) ranked (upd f [] stk) ∧ mu g (fun v => if v ∈ s then MX else rank v) (upd f [] stk) < mu g rank ((f, s) :: stk) := by
  have hs : ∀ v, v ∈ s → rank v ≠ 0 := fun v hv => by have := (h.core.pin v (by simp only [pend, List.mem_append]; exact Or.inr hv)).2.2.1; omega
  refine ⟨⟨pop_core h.core h.stk hi hl, pop_stk h.core h.stk hl, vis_close h.vis hs, fun v hv => ?_⟩, ?_⟩
  · by_cases e : v ∈ s
    · simp only [if_pos e]; decide
    · simp only [if_neg e]; exact h.kept v hv
  · unfold mu
    rw [unr_congr g rank (fun v => if v ∈ s then MX else rank v) (fun v => ?_) g.n, frs_upd]
    · simp only [frs]; omega
    · by_cases e : v ∈ s
      · simp only [if_pos e]; exact ⟨fun a => absurd a (by decide), fun a => absurd a (hs v e)⟩
      · simp only [if_neg e]

theorem WS.merge (h : WS g rank0 Z rank small ranked ((f, s) :: stk)) (hi : f.ids = []) (hl : f.low ≠ rank f.node) :
    stk ≠ [] ∧ WS g rank0 Z rank small ranked (upd f s stk) ∧ mu g rank (upd f s stk) < mu g rank ((f, s) :: stk) ∧ pend (upd f s stk) = pend ((f, s) :: stk) := by
  obtain ⟨h1, h2⟩ := merge_stk h.core h.stk hi hl
  have he : pend (upd f s stk) = pend ((f, s) :: stk) := by
    cases stk with
    | nil => exact absurd rfl h1
    | cons p r => rw [pend_upd]; rfl
  refine ⟨h1, ⟨by rw [he]; exact h.core, h2, h.vis, h.kept⟩, ?_, he⟩
  unfold mu
  rw [frs_upd]
  simp only [frs]; omega
end

end Go.Proofs.YbulkcawkDoor.T
namespace Go.Proofs.YbulkcawkDoor.D

def Fits (fs : List FM) (stk : List (T.Fr × List Nat)) : Prop := fs.map (·.fr) = (stk.map (·.1)).reverse

theorem Fits.len {fs : List FM} {stk : List (T.Fr × List Nat)} (h : Fits fs stk) : fs.length = stk.length := by
  have := congrArg List.length h
  simpa using this

theorem Fits.top {fs : List FM} {f : T.Fr} {s : List Nat} {stk : List (T.Fr × List Nat)} (h : Fits fs ((f, s) :: stk)) : ∃ fs0 x, fs = fs0 ++ [x] ∧ x.fr = f ∧ Fits fs0 stk := by
  unfold Fits at h
  simp only [List.map_cons, List.reverse_cons] at h
  rw [List.map_eq_append_iff] at h
  obtain ⟨l1, l2, e, h1, h2⟩ := h
  cases l2 with
  | nil => simp at h2
  | cons x l2 =>
    cases l2 with
    | nil => simp at h2; exact ⟨l1, x, e, h2, h1⟩
    | cons _ _ => simp at h2

theorem Fits.push {fs : List FM} {x : FM} {f : T.Fr} {s : List Nat} {stk : List (T.Fr × List Nat)} (h : Fits fs stk) (hx : x.fr = f) : Fits (fs ++ [x]) ((f, s) :: stk) := by
  unfold Fits at *
  simp [h, hx]

theorem Fits.nil {stk : List (T.Fr × List Nat)} (h : Fits [] stk) : stk = [] := by
  have := h.len
  cases stk with
  | nil => rfl
  | cons _ _ => simp at this

end Go.Proofs.YbulkcawkDoor.D
