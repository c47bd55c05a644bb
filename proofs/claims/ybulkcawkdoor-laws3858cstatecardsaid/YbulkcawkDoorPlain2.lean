import Derived.Test.YbulkcawkDoorPlain1
/- THE PLAIN LAW, 2: the measure, the roots, breadth first. -/
namespace Go.Proofs.YbulkcawkDoor.T

/-- what is still to be walked through: of the nodes not come to -/
def unr (g : Gr) (rank : Nat → Int) : Nat → Nat
  | 0 => 0
  | n + 1 => unr g rank n + if rank n = 0 then (g.ids n).length + 2 else 0

/-- .. and of the frames -/
def frs : List (Fr × List Nat) → Nat
  | [] => 0
  | (f, _) :: r => f.ids.length + 1 + frs r

theorem unr_set (g : Gr) (rank rank' : Nat → Int) (y : Nat) (h : ∀ v, v ≠ y → rank' v = rank v) (h0 : rank y = 0) (h1 : rank' y ≠ 0) : ∀ n, unr g rank n = unr g rank' n + if y < n then (g.ids y).length + 2 else 0
  | 0 => by simp [unr]
  | n + 1 => by
    simp only [unr]
    rw [unr_set g rank rank' y h h0 h1 n]
    by_cases e : n = y
    · subst e; simp [h0, h1]
    · rw [h n e]
      by_cases e' : y < n
      · simp [e', show y < n + 1 by omega]; omega
      · simp [e', show ¬ y < n + 1 by omega]

theorem unr_congr (g : Gr) (rank rank' : Nat → Int) (h : ∀ v, (rank' v = 0 ↔ rank v = 0)) : ∀ n, unr g rank' n = unr g rank n
  | 0 => rfl
  | n + 1 => by
    simp only [unr]
    rw [unr_congr g rank rank' h n]
    by_cases e : rank n = 0
    · rw [if_pos e, if_pos ((h n).2 e)]
    · rw [if_neg e, if_neg (fun a => e ((h n).1 a))]

theorem frs_upd (f : Fr) (s : List Nat) (r : List (Fr × List Nat)) : frs (upd f s r) = frs r := by
  cases r with
  | nil => rfl
  | cons p r => rfl

/-- every node come to is reached from one of Z -/
def Vis (g : Gr) (rank : Nat → Int) (Z : Nat → Prop) : Prop := ∀ v, v < g.n → g.here v = true → rank v ≠ 0 → ∃ z, Z z ∧ Reach g z v

theorem vis_enter {g : Gr} {rank : Nat → Int} {Z : Nat → Prop} {y : Nat} {k : Int} (h : Vis g rank Z) (hy : ∃ z, Z z ∧ Reach g z y) : Vis g (fun v => if v = y then k else rank v) Z := by
  intro v hv hh h0
  by_cases e : v = y
  · subst e; exact hy
  · simp only [if_neg e] at h0; exact h v hv hh h0

theorem vis_close {g : Gr} {rank : Nat → Int} {Z : Nat → Prop} {s : List Nat} (h : Vis g rank Z) (hs : ∀ v, v ∈ s → rank v ≠ 0) : Vis g (fun v => if v ∈ s then MX else rank v) Z := by
  intro v hv hh h0
  by_cases e : v ∈ s
  · exact h v hv hh (hs v e)
  · simp only [if_neg e] at h0; exact h v hv hh h0

theorem Vis.mono {g : Gr} {rank : Nat → Int} {Z Z' : Nat → Prop} (h : Vis g rank Z) (hz : ∀ z, Z z → Z' z) : Vis g rank Z' := fun v hv hh h0 => by
  obtain ⟨z, a, b⟩ := h v hv hh h0
  exact ⟨z, hz z a, b⟩

/-! ### breadth first -/
structure Bf (g : Gr) (z : Nat) (seen : Nat → Bool) (q : List Nat) (best : Int) : Prop where
  mem : ∀ v, v < g.n → (seen v = true ↔ v ∈ q)
  lt : ∀ v, v ∈ q → v < g.n ∧ Reach g z v
  root : z ∈ q
  len : q.length = (List.range g.n).countP seen
  bestAt : ∃ v, v ∈ q ∧ g.val v = best
  bestLe : ∀ v, v ∈ q → best ≤ g.val v

theorem bf_start {g : Gr} {z : Nat} (hz : z < g.n) : Bf g z (fun v => decide (v = z)) [z] (g.val z) := by
  refine { mem := ?_, lt := ?_, root := by simp, len := ?_, bestAt := ⟨z, by simp, rfl⟩, bestLe := ?_ }
  · intro v _; simp
  · intro v hv; simp at hv; subst hv; exact ⟨hz, Reach.refl g v⟩
  · have := countP_set (fun _ => false) (fun v => decide (v = z)) z (by intro v hv; simp [hv]) rfl (by simp) g.n
    rw [this, if_pos hz]; simp
  · intro v hv; simp at hv; subst hv; exact Int.le_refl _

theorem bf_len {g : Gr} {z : Nat} {seen : Nat → Bool} {q : List Nat} {best : Int} (h : Bf g z seen q best) : q.length ≤ g.n := by
  rw [h.len]
  have := List.countP_le_length (p := seen) (l := List.range g.n)
  simpa using this

theorem bf_add {g : Gr} {z : Nat} {seen : Nat → Bool} {q : List Nat} {best : Int} {u y : Nat} (h : Bf g z seen q best) (hu : u ∈ q) (he : Edge g u y) (hs : seen y = false) :
    Bf g z (fun v => if v = y then true else seen v) (q ++ [y]) (if g.val y < best then g.val y else best) := by
  have hy := he.2.1
  refine { mem := ?_, lt := ?_, root := List.mem_append.2 (Or.inl h.root), len := ?_, bestAt := ?_, bestLe := ?_ }
  · intro v hv
    by_cases e : v = y
    · subst e; simp
    · simp [e, h.mem v hv]
  · intro v hv
    rcases List.mem_append.1 hv with hv | hv
    · exact h.lt v hv
    · simp at hv; subst hv; exact ⟨hy, (h.lt u hu).2.trans (Reach.edge he)⟩
  · rw [countP_set seen (fun v => if v = y then true else seen v) y (by intro v hv; simp [hv]) hs (by simp) g.n, if_pos hy, List.length_append, h.len]; rfl
  · by_cases e : g.val y < best
    · rw [if_pos e]; exact ⟨y, by simp, rfl⟩
    · rw [if_neg e]; obtain ⟨v, hv, ev⟩ := h.bestAt; exact ⟨v, List.mem_append.2 (Or.inl hv), ev⟩
  · intro v hv
    rcases List.mem_append.1 hv with hv | hv
    · have := h.bestLe v hv; split <;> omega
    · simp at hv; subst hv; split <;> omega

/-- the edges of the first k of the queue lead to the queue -/
def Done (g : Gr) (q : List Nat) (k : Nat) : Prop := ∀ i u, i < k → q[i]? = some u → ∀ y, Edge g u y → y ∈ q

theorem done_add {g : Gr} {q : List Nat} {k y : Nat} (h : Done g q k) (hk : k ≤ q.length) : Done g (q ++ [y]) k := fun i u hi hu z e =>
  List.mem_append.2 (Or.inl (h i u hi (by rw [List.getElem?_append_left (by omega)] at hu; exact hu) z e))

theorem bf_end {g : Gr} {z : Nat} {seen : Nat → Bool} {q : List Nat} {best : Int} (h : Bf g z seen q best) (hd : Done g q q.length) : IsMin g z best ∧ ∀ v, v < g.n → (seen v = true ↔ Reach g z v) := by
  have hcl : ∀ v y, v ∈ q → Edge g v y → y ∈ q := by
    intro v y hv e
    obtain ⟨i, hi, ei⟩ := List.getElem_of_mem hv
    exact hd i v hi (by rw [List.getElem?_eq_getElem hi, ei]) y e
  have hr : ∀ v, Reach g z v → v ∈ q := fun v r => Reach.closed (fun v => v ∈ q) hcl h.root r
  refine ⟨⟨?_, fun y r => h.bestLe y (hr y r)⟩, fun v hv => ?_⟩
  · obtain ⟨v, hv, ev⟩ := h.bestAt
    exact ⟨v, (h.lt v hv).2, ev⟩
  · rw [h.mem v hv]
    exact ⟨fun a => (h.lt v a).2, hr v⟩

end Go.Proofs.YbulkcawkDoor.T
