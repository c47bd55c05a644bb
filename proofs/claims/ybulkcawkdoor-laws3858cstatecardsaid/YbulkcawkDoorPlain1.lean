/- THE PLAIN LAW: Tarjan's walk, no Go in sight. -/
namespace Go.Proofs.YbulkcawkDoor.T

/-- the graph: how many ids, which of them sent, what each listens to, the inputs -/
structure Gr where
  n : Nat
  here : Nat → Bool
  ids : Nat → List Int
  val : Nat → Int

def MX : Int := 2147483647

def Edge (g : Gr) (v y : Nat) : Prop := g.here v = true ∧ y < g.n ∧ (y : Int) ∈ g.ids v

def reachN (g : Gr) : Nat → Nat → Nat → Prop
  | 0, v, y => v = y
  | k + 1, v, y => ∃ u, Edge g v u ∧ reachN g k u y

def Reach (g : Gr) (v y : Nat) : Prop := ∃ k, reachN g k v y

theorem Reach.refl (g : Gr) (v : Nat) : Reach g v v := ⟨0, rfl⟩

theorem Reach.head {g : Gr} {v u y : Nat} (h : Edge g v u) (r : Reach g u y) : Reach g v y := by
  obtain ⟨k, hk⟩ := r
  exact ⟨k + 1, u, h, hk⟩

theorem Reach.edge {g : Gr} {v u : Nat} (h : Edge g v u) : Reach g v u := Reach.head h (Reach.refl g u)

theorem reachN_trans {g : Gr} : ∀ (k : Nat) {v u y : Nat}, reachN g k v u → Reach g u y → Reach g v y
  | 0, _, _, _, h, r => by cases h; exact r
  | k + 1, _, _, _, h, r => by
    obtain ⟨m, e, h'⟩ := h
    exact Reach.head e (reachN_trans k h' r)

theorem Reach.trans {g : Gr} {v u y : Nat} (h : Reach g v u) (r : Reach g u y) : Reach g v y := by
  obtain ⟨k, hk⟩ := h
  exact reachN_trans k hk r

/-- what is closed under the edges holds whatever is reached -/
theorem reachN_closed {g : Gr} (p : Nat → Prop) (hp : ∀ v y, p v → Edge g v y → p y) : ∀ (k : Nat) {v y : Nat}, p v → reachN g k v y → p y
  | 0, _, _, h, e => by cases e; exact h
  | k + 1, _, _, h, r => by
    obtain ⟨m, e, r'⟩ := r
    exact reachN_closed p hp k (hp _ _ h e) r'

theorem Reach.closed {g : Gr} (p : Nat → Prop) (hp : ∀ v y, p v → Edge g v y → p y) {v y : Nat} (h : p v) (r : Reach g v y) : p y := by
  obtain ⟨k, hk⟩ := r
  exact reachN_closed p hp k h hk

/-- m is the least input of what v reaches -/
def IsMin (g : Gr) (v : Nat) (m : Int) : Prop := (∃ y, Reach g v y ∧ g.val y = m) ∧ ∀ y, Reach g v y → m ≤ g.val y

theorem IsMin.unique {g : Gr} {v : Nat} {a b : Int} (ha : IsMin g v a) (hb : IsMin g v b) : a = b := by
  obtain ⟨y, ry, hy⟩ := ha.1
  obtain ⟨z, rz, hz⟩ := hb.1
  have h1 := hb.2 y ry
  have h2 := ha.2 z rz
  omega

/-- a frame: what is left to follow, its node, the least rank and input found -/
structure Fr where
  ids : List Int
  node : Nat
  low : Int
  small : Int

/-- the pending nodes: each frame (top first) has its own segment -/
def pend : List (Fr × List Nat) → List Nat
  | [] => []
  | (_, s) :: r => pend r ++ s

structure FrOK (g : Gr) (rank small : Nat → Int) (below : List Nat) (nxt : Option Nat) (f : Fr) (s : List Nat) : Prop where
  head : ∃ t, s = f.node :: t
  here : g.here f.node = true
  sub : ∀ i, i ∈ f.ids → i ∈ g.ids f.node
  to : ∀ u, u ∈ s → Reach g f.node u
  back : ∀ u, u ∈ s → Reach g u f.node
  lowle : f.low ≤ rank f.node
  lowat : ∃ y, (y ∈ below ∨ y ∈ s) ∧ rank y = f.low ∧ Reach g f.node y
  smle : ∀ u, u ∈ s → f.small ≤ g.val u
  smat : ∃ y, Reach g f.node y ∧ g.val y = f.small
  edges : ∀ u, u ∈ s → ∀ y, Edge g u y → (u = f.node ∧ (y : Int) ∈ f.ids) ∨ (rank y = MX ∧ f.small ≤ small y) ∨ ((y ∈ s ∨ y ∈ below) ∧ f.low ≤ rank y) ∨ nxt = some y

def Stk (g : Gr) (rank small : Nat → Int) : Option Nat → List (Fr × List Nat) → Prop
  | _, [] => True
  | nxt, (f, s) :: r => FrOK g rank small (pend r) nxt f s ∧ (∀ p, r.head? = some p → Edge g p.1.node f.node) ∧ Stk g rank small (some f.node) r

def count (g : Gr) (rank : Nat → Int) : Nat := (List.range g.n).countP (fun v => g.here v && rank v != 0)

structure Core (g : Gr) (rank small : Nat → Int) (ranked : Nat) (ps : List Nat) : Prop where
  sorted : ps.Pairwise (fun a b => rank a < rank b)
  pin : ∀ v, v ∈ ps → v < g.n ∧ g.here v = true ∧ 1 ≤ rank v ∧ rank v ≤ ranked
  all : ∀ v, v < g.n → v ∈ ps ∨ (rank v = 0 ∧ g.here v = true) ∨ rank v = MX
  sm : ∀ v, v < g.n → (rank v = 0 ∨ v ∈ ps) → small v = g.val v
  done : ∀ v, v < g.n → rank v = MX → IsMin g v (small v) ∧ ∀ y, Edge g v y → rank y = MX
  cnt : ranked = count g rank
  lim : g.n ≤ 300

theorem pair_mono {R S : Nat → Nat → Prop} : ∀ {l : List Nat}, l.Pairwise R → (∀ a b, a ∈ l → b ∈ l → R a b → S a b) → l.Pairwise S
  | [], _, _ => List.Pairwise.nil
  | x :: l, h, k => by
    rw [List.pairwise_cons] at h ⊢
    exact ⟨fun b hb => k x b List.mem_cons_self (List.mem_cons_of_mem _ hb) (h.1 b hb), pair_mono h.2 (fun a b ha hb => k a b (List.mem_cons_of_mem _ ha) (List.mem_cons_of_mem _ hb))⟩

theorem count_le (g : Gr) (rank : Nat → Int) : count g rank ≤ g.n := by
  unfold count
  have := List.countP_le_length (p := fun v => g.here v && rank v != 0) (l := List.range g.n)
  simpa using this

theorem countP_set (p q : Nat → Bool) (y : Nat) (h : ∀ v, v ≠ y → p v = q v) (hp : p y = false) (hq : q y = true) : ∀ (n : Nat), (List.range n).countP q = (List.range n).countP p + if y < n then 1 else 0
  | 0 => by simp
  | n + 1 => by
    rw [List.range_succ, List.countP_append, List.countP_append, countP_set p q y h hp hq n]
    by_cases e : n = y
    · subst e; simp [hp, hq]
    · have := h n e
      by_cases e' : y < n
      · simp [this, e', show y < n + 1 by omega]; omega
      · simp [this, e', show ¬ y < n + 1 by omega]

theorem countP_congr (p q : Nat → Bool) (n : Nat) (h : ∀ v, v < n → p v = q v) : (List.range n).countP p = (List.range n).countP q := by
  induction n with
  | zero => rfl
  | succ n ih => rw [List.range_succ, List.countP_append, List.countP_append, ih (fun v hv => h v (by omega)), List.countP_cons, List.countP_cons, h n (by omega)]; simp

section
variable {g : Gr} {rank small : Nat → Int} {ranked : Nat}

/-- what a frame says hangs on the ranks of the closed and of what is pending up to it -/
theorem FrOK.congr {rank' small' : Nat → Int} {below : List Nat} {nxt : Option Nat} {f : Fr} {s : List Nat} (h : FrOK g rank small below nxt f s)
    (h1 : ∀ v, v ∈ s ∨ v ∈ below → rank' v = rank v) (h2 : ∀ v, rank v = MX → rank' v = MX ∧ small' v = small v) : FrOK g rank' small' below nxt f s := by
  obtain ⟨t, ht⟩ := h.head
  have hn : f.node ∈ s := by rw [ht]; exact List.mem_cons_self
  refine { head := h.head, here := h.here, sub := h.sub, to := h.to, back := h.back, lowle := by rw [h1 _ (Or.inl hn)]; exact h.lowle, lowat := ?_, smle := h.smle, smat := h.smat, edges := ?_ }
  · obtain ⟨y, hy, e, r⟩ := h.lowat
    exact ⟨y, hy, by rw [h1 y (by rcases hy with h | h; exact Or.inr h; exact Or.inl h)]; exact e, r⟩
  · intro u hu y e
    rcases h.edges u hu y e with a | ⟨a, b⟩ | ⟨a, b⟩ | a
    · exact Or.inl a
    · exact Or.inr (Or.inl ⟨(h2 y a).1, by rw [(h2 y a).2]; exact b⟩)
    · exact Or.inr (Or.inr (Or.inl ⟨a, by rw [h1 y a]; exact b⟩))
    · exact Or.inr (Or.inr (Or.inr a))

theorem Stk.congr {rank' small' : Nat → Int} : ∀ {stk : List (Fr × List Nat)} {nxt : Option Nat}, Stk g rank small nxt stk → (∀ v, v ∈ pend stk → rank' v = rank v) → (∀ v, rank v = MX → rank' v = MX ∧ small' v = small v) → Stk g rank' small' nxt stk
  | [], _, _, _, _ => trivial
  | (f, s) :: r, nxt, h, h1, h2 => by
    refine ⟨h.1.congr (fun v hv => h1 v ?_) h2, h.2.1, h.2.2.congr (fun v hv => h1 v ?_) h2⟩
    · simp only [pend, List.mem_append]
      rcases hv with hv | hv
      · exact Or.inr hv
      · exact Or.inl hv
    · simp only [pend, List.mem_append]; exact Or.inl hv

/-- ENTER: an unranked node becomes the top of the stack -/
theorem enter_core {stk : List (Fr × List Nat)} {y : Nat} (h : Core g rank small ranked (pend stk)) (hy : y < g.n) (h0 : rank y = 0) (f : Fr) :
    Core g (fun v => if v = y then ((ranked + 1 : Nat) : Int) else rank v) small (ranked + 1) (pend ((f, [y]) :: stk)) := by
  have hh : g.here y = true := by
    rcases h.all y hy with a | a | a
    · have := (h.pin y a).2.2.1; omega
    · exact a.2
    · rw [h0] at a; exact absurd a (by decide)
  have hnp : y ∉ pend stk := fun hm => by have := (h.pin y hm).2.2.1; omega
  have hne : ∀ v, v ∈ pend stk → v ≠ y := fun v hv e => hnp (e ▸ hv)
  have hcl : count g rank ≤ g.n := count_le g rank
  have hcn := h.cnt
  have hlm := h.lim
  refine { sorted := ?_, pin := ?_, all := ?_, sm := ?_, done := ?_, cnt := ?_, lim := h.lim }
  · show (pend stk ++ [y]).Pairwise _
    rw [List.pairwise_append]
    refine ⟨pair_mono h.sorted ?_, List.pairwise_singleton _ _, ?_⟩
    · intro a b ha hb hab
      simp only [if_neg (hne a ha), if_neg (hne b hb)]; exact hab
    · intro a ha b hb
      simp only [List.mem_singleton] at hb
      subst hb
      simp only [if_neg (hne a ha), if_true]
      have := (h.pin a ha).2.2.2
      omega
  · intro v hv
    simp only [pend, List.mem_append, List.mem_singleton] at hv
    rcases hv with hv | rfl
    · simp only [if_neg (hne v hv)]
      have := h.pin v hv
      exact ⟨this.1, this.2.1, this.2.2.1, by omega⟩
    · simp only [if_true]
      exact ⟨hy, hh, by omega, by omega⟩
  · intro v hv
    by_cases e : v = y
    · subst e; left; simp [pend]
    · simp only [if_neg e]
      rcases h.all v hv with a | a
      · left; simp only [pend, List.mem_append]; exact Or.inl a
      · exact Or.inr a
  · intro v hv hc
    by_cases e : v = y
    · subst e; exact h.sm v hv (Or.inl h0)
    · refine h.sm v hv ?_
      rcases hc with hc | hc
      · simp only [if_neg e] at hc; exact Or.inl hc
      · simp only [pend, List.mem_append, List.mem_singleton] at hc
        rcases hc with hc | hc
        · exact Or.inr hc
        · exact absurd hc e
  · intro v hv hr
    by_cases e : v = y
    · subst e
      simp only [if_true] at hr
      unfold MX at hr; omega
    · simp only [if_neg e] at hr
      obtain ⟨a, b⟩ := h.done v hv hr
      refine ⟨a, fun z hz => ?_⟩
      have hzr := b z hz
      by_cases ez : z = y
      · subst ez; rw [h0] at hzr; exact absurd hzr (by decide)
      · simp only [if_neg ez]; exact hzr
  · unfold count
    rw [countP_set (fun v => g.here v && rank v != 0) (fun v => g.here v && (if v = y then ((ranked + 1 : Nat) : Int) else rank v) != 0) y]
    · rw [if_pos hy, hcn]; rfl
    · intro v hv; simp [hv]
    · simp [h0]
    · simp [hh]; omega

theorem enter_stk {stk : List (Fr × List Nat)} {y : Nat} (h : Core g rank small ranked (pend stk)) (hs : Stk g rank small (some y) stk) (hy : y < g.n) (h0 : rank y = 0) (hE : ∀ p, stk.head? = some p → Edge g p.1.node y) :
    Stk g (fun v => if v = y then ((ranked + 1 : Nat) : Int) else rank v) small none ((⟨g.ids y, y, ((ranked + 1 : Nat) : Int), small y⟩, [y]) :: stk) := by
  have hnp : y ∉ pend stk := fun hm => by have := (h.pin y hm).2.2.1; omega
  have hh : g.here y = true := by
    rcases h.all y hy with a | a | a
    · exact absurd a hnp
    · exact a.2
    · rw [h0] at a; exact absurd a (by decide)
  refine ⟨?_, hE, ?_⟩
  · refine { head := ⟨[], rfl⟩, here := hh, sub := fun i hi => hi, to := ?_, back := ?_, lowle := by simp, lowat := ⟨y, Or.inr (by simp), by simp, Reach.refl g y⟩, smle := ?_, smat := ⟨y, Reach.refl g y, (h.sm y hy (Or.inl h0)).symm⟩, edges := ?_ }
    · intro u hu; simp at hu; subst hu; exact Reach.refl g u
    · intro u hu; simp at hu; subst hu; exact Reach.refl g u
    · intro u hu; simp at hu; subst hu; show small u ≤ _; rw [h.sm u hy (Or.inl h0)]; exact Int.le_refl _
    · intro u hu z hz; simp at hu; subst hu; exact Or.inl ⟨rfl, hz.2.2⟩
  · refine hs.congr (fun v hv => ?_) (fun v hv => ?_)
    · have : v ≠ y := fun e => hnp (e ▸ hv)
      simp only [if_neg this]
    · have : v ≠ y := fun e => by subst e; rw [h0] at hv; exact absurd hv (by decide)
      refine ⟨?_, rfl⟩
      simp only [if_neg this]; exact hv

/-- FOLLOW: an id that names no process -/
theorem fr_skip {below s : List Nat} {id : Int} {ids : List Int} {v : Nat} {lo sm : Int} (h : FrOK g rank small below none ⟨id :: ids, v, lo, sm⟩ s) (hid : ¬ (0 ≤ id ∧ id < g.n)) : FrOK g rank small below none ⟨ids, v, lo, sm⟩ s :=
  { head := h.head, here := h.here, sub := fun i hi => h.sub i (List.mem_cons_of_mem _ hi), to := h.to, back := h.back, lowle := h.lowle, lowat := h.lowat, smle := h.smle, smat := h.smat,
    edges := fun u hu y e => by
      rcases h.edges u hu y e with ⟨a, b⟩ | a
      · rcases List.mem_cons.1 b with b | b
        · have := e.2.1; exact absurd ⟨by omega, by omega⟩ hid
        · exact Or.inl ⟨a, b⟩
      · exact Or.inr a }

/-- FOLLOW: an edge from a node that the walk has not come to: it stops there -/
theorem fr_stop {below s : List Nat} {y : Nat} {ids : List Int} {v : Nat} {lo sm : Int} (h : FrOK g rank small below none ⟨(y : Int) :: ids, v, lo, sm⟩ s) : FrOK g rank small below (some y) ⟨ids, v, lo, sm⟩ s :=
  { head := h.head, here := h.here, sub := fun i hi => h.sub i (List.mem_cons_of_mem _ hi), to := h.to, back := h.back, lowle := h.lowle, lowat := h.lowat, smle := h.smle, smat := h.smat,
    edges := fun u hu z e => by
      rcases h.edges u hu z e with ⟨a, b⟩ | a | a | a
      · rcases List.mem_cons.1 b with b | b
        · exact Or.inr (Or.inr (Or.inr (congrArg some (by omega))))
        · exact Or.inl ⟨a, b⟩
      · exact Or.inr (Or.inl a)
      · exact Or.inr (Or.inr (Or.inl a))
      · cases a }

theorem fr_edge {below s : List Nat} {nxt : Option Nat} {y : Nat} {ids : List Int} {v : Nat} {lo sm : Int} (h : FrOK g rank small below nxt ⟨(y : Int) :: ids, v, lo, sm⟩ s) (hy : y < g.n) : Edge g v y :=
  ⟨h.here, hy, h.sub _ List.mem_cons_self⟩

/-- FOLLOW: an edge from a node that the walk has come to -/
theorem fr_take {below s : List Nat} {y : Nat} {ids : List Int} {v : Nat} {lo sm : Int} (hc : Core g rank small ranked (below ++ s)) (h : FrOK g rank small below none ⟨(y : Int) :: ids, v, lo, sm⟩ s) (hy : y < g.n) (h0 : rank y ≠ 0) :
    FrOK g rank small below none ⟨ids, v, min lo (rank y), min sm (small y)⟩ s := by
  have he := fr_edge h hy
  have hlm := hc.lim
  have hcl := count_le g rank
  have hcn := hc.cnt
  obtain ⟨t, ht⟩ := h.head
  have hvs : v ∈ s := by rw [ht]; exact List.mem_cons_self
  have hvr := (hc.pin v (List.mem_append.2 (Or.inr hvs))).2.2.2
  have hlow : lo ≤ rank v := h.lowle
  have hl1 : min lo (rank y) ≤ lo := Int.min_le_left _ _
  have hl2 : min lo (rank y) ≤ rank y := Int.min_le_right _ _
  have hs1 : min sm (small y) ≤ sm := Int.min_le_left _ _
  have hs2 : min sm (small y) ≤ small y := Int.min_le_right _ _
  refine { head := h.head, here := h.here, sub := fun i hi => h.sub i (List.mem_cons_of_mem _ hi), to := h.to, back := h.back, lowle := ?_, lowat := ?_, smle := ?_, smat := ?_, edges := ?_ }
  · show min lo (rank y) ≤ rank v; omega
  · show ∃ z, (z ∈ below ∨ z ∈ s) ∧ rank z = min lo (rank y) ∧ Reach g v z
    by_cases hle : lo ≤ rank y
    · rw [Int.min_eq_left hle]; exact h.lowat
    · rcases hc.all y hy with a | a | a
      · refine ⟨y, List.mem_append.1 a, by rw [Int.min_eq_right (by omega)], Reach.edge he⟩
      · exact absurd a.1 h0
      · exfalso; rw [a] at hle; unfold MX at hle; omega
  · intro u hu; have := h.smle u hu; show min sm (small y) ≤ _; simp only at this; omega
  · show ∃ z, Reach g v z ∧ g.val z = min sm (small y)
    by_cases hle : sm ≤ small y
    · rw [Int.min_eq_left hle]; exact h.smat
    · rw [Int.min_eq_right (by omega)]
      rcases hc.all y hy with a | a | a
      · exact ⟨y, Reach.edge he, (hc.sm y hy (Or.inr a)).symm⟩
      · exact absurd a.1 h0
      · obtain ⟨z, rz, ez⟩ := (hc.done y hy a).1.1
        exact ⟨z, Reach.head he rz, ez⟩
  · intro u hu z e
    show (u = v ∧ (z : Int) ∈ ids) ∨ (rank z = MX ∧ min sm (small y) ≤ small z) ∨ ((z ∈ s ∨ z ∈ below) ∧ min lo (rank y) ≤ rank z) ∨ _
    rcases h.edges u hu z e with ⟨a, b⟩ | ⟨a, b⟩ | ⟨a, b⟩ | a
    · rcases List.mem_cons.1 b with b | b
      · have hz : z = y := by omega
        subst hz
        rcases hc.all z hy with a' | a' | a'
        · exact Or.inr (Or.inr (Or.inl ⟨(List.mem_append.1 a').symm, hl2⟩))
        · exact absurd a'.1 h0
        · exact Or.inr (Or.inl ⟨a', hs2⟩)
      · exact Or.inl ⟨a, b⟩
    · exact Or.inr (Or.inl ⟨a, by simp only at b; omega⟩)
    · exact Or.inr (Or.inr (Or.inl ⟨a, by simp only at b; omega⟩))
    · cases a

/-- the parent takes what the frame that ended found -/
def upd (f : Fr) (s : List Nat) : List (Fr × List Nat) → List (Fr × List Nat)
  | [] => []
  | (p, sp) :: r => (⟨p.ids, p.node, min p.low f.low, min p.small f.small⟩, sp ++ s) :: r

theorem pend_upd (f : Fr) (s : List Nat) (p : Fr × List Nat) (r : List (Fr × List Nat)) : pend (upd f s (p :: r)) = pend (p :: r) ++ s := by
  obtain ⟨p, sp⟩ := p
  simp [upd, pend]

theorem pend_upd_nil (f : Fr) (r : List (Fr × List Nat)) : pend (upd f [] r) = pend r := by
  cases r with
  | nil => rfl
  | cons p r => rw [pend_upd]; simp

/-- every pending node reaches the top's node -/
theorem back_top : ∀ {stk : List (Fr × List Nat)} {nxt : Option Nat} {f : Fr} {s : List Nat}, Stk g rank small nxt ((f, s) :: stk) → ∀ y, y ∈ pend ((f, s) :: stk) → Reach g y f.node
  | [], _, f, s, h, y, hy => by simp [pend] at hy; exact h.1.back y hy
  | (p, sp) :: r, _, f, s, h, y, hy => by
    simp only [pend, List.mem_append] at hy
    rcases hy with hy | hy
    · exact (back_top h.2.2 y (by simp only [pend, List.mem_append]; exact hy)).trans (Reach.edge (h.2.1 (p, sp) rfl))
    · exact h.1.back y hy

/-- the edges of a finished top segment stay in the segment or lead to closed nodes, where its low is its node's own rank -/
theorem seg_closed {stk : List (Fr × List Nat)} {f : Fr} {s : List Nat} (hc : Core g rank small ranked (pend ((f, s) :: stk))) (h : Stk g rank small none ((f, s) :: stk)) (hi : f.ids = []) (hl : f.low = rank f.node) :
    ∀ u, u ∈ s → ∀ y, Edge g u y → y ∈ s ∨ (rank y = MX ∧ f.small ≤ small y) := by
  intro u hu y e
  obtain ⟨t, ht⟩ := h.1.head
  rcases h.1.edges u hu y e with ⟨_, b⟩ | a | ⟨a, b⟩ | a
  · rw [hi] at b; cases b
  · exact Or.inr a
  · rcases a with a | a
    · exact Or.inl a
    · exfalso
      have hs := hc.sorted
      simp only [pend] at hs
      rw [List.pairwise_append] at hs
      have := hs.2.2 y a f.node (by rw [ht]; exact List.mem_cons_self)
      omega
  · cases a

/-- POP, the component closed -/
theorem pop_core {stk : List (Fr × List Nat)} {f : Fr} {s : List Nat} (hc : Core g rank small ranked (pend ((f, s) :: stk))) (h : Stk g rank small none ((f, s) :: stk)) (hi : f.ids = []) (hl : f.low = rank f.node) :
    Core g (fun v => if v ∈ s then MX else rank v) (fun v => if v ∈ s then f.small else small v) ranked (pend (upd f [] stk)) := by
  have hcl := seg_closed hc h hi hl
  have hlm := hc.lim
  have hct := count_le g rank
  have hcn := hc.cnt
  have hso := hc.sorted
  simp only [pend] at hso
  rw [List.pairwise_append] at hso
  have hdis : ∀ v, v ∈ pend stk → v ∉ s := fun v hv hs => by have := hso.2.2 v hv v hs; omega
  have hmin : ∀ k u y, u ∈ s → reachN g k u y → f.small ≤ g.val y := by
    intro k
    induction k with
    | zero => intro u y hu r; cases r; exact h.1.smle _ hu
    | succ k ih =>
      intro u y hu r
      obtain ⟨m, e, r'⟩ := r
      rcases hcl u hu m e with a | ⟨a, b⟩
      · exact ih m y a r'
      · have := (hc.done m e.2.1 a).1.2 y ⟨k, r'⟩; omega
  rw [pend_upd_nil]
  refine { sorted := ?_, pin := ?_, all := ?_, sm := ?_, done := ?_, cnt := ?_, lim := hc.lim }
  · refine pair_mono hso.1 (fun a b ha hb hab => ?_)
    simp only [if_neg (hdis a ha), if_neg (hdis b hb)]; exact hab
  · intro v hv
    simp only [if_neg (hdis v hv)]
    exact hc.pin v (by simp only [pend, List.mem_append]; exact Or.inl hv)
  · intro v hv
    by_cases e : v ∈ s
    · right; right; simp only [if_pos e]
    · simp only [if_neg e]
      rcases hc.all v hv with a | a
      · simp only [pend, List.mem_append] at a
        rcases a with a | a
        · exact Or.inl a
        · exact absurd a e
      · exact Or.inr a
  · intro v hv hz
    by_cases e : v ∈ s
    · exfalso
      rcases hz with hz | hz
      · simp only [if_pos e] at hz; exact absurd hz (by decide)
      · exact hdis v hz e
    · simp only [if_neg e] at hz ⊢
      refine hc.sm v hv ?_
      rcases hz with hz | hz
      · exact Or.inl hz
      · exact Or.inr (by simp only [pend, List.mem_append]; exact Or.inl hz)
  · intro v hv hz
    by_cases e : v ∈ s
    · simp only [if_pos e]
      refine ⟨⟨?_, fun y ⟨k, r⟩ => hmin k v y e r⟩, fun y hy => ?_⟩
      · obtain ⟨y, r, ey⟩ := h.1.smat
        exact ⟨y, (h.1.back v e).trans r, ey⟩
      · by_cases ey : y ∈ s
        · simp only [if_pos ey]
        · simp only [if_neg ey]
          rcases hcl v e y hy with a | a
          · exact absurd a ey
          · exact a.1
    · simp only [if_neg e] at hz ⊢
      obtain ⟨a, b⟩ := hc.done v hv hz
      refine ⟨a, fun y hy => ?_⟩
      by_cases ey : y ∈ s
      · simp only [if_pos ey]
      · simp only [if_neg ey]; exact b y hy
  · rw [hcn]
    unfold count
    refine countP_congr _ _ _ (fun v hv => ?_)
    by_cases e : v ∈ s
    · have := (hc.pin v (by simp only [pend, List.mem_append]; exact Or.inr e)).2.2.1
      have h1 : (rank v != 0) = true := by simp; omega
      have h2 : ((if v ∈ s then MX else rank v) != 0) = true := by simp only [if_pos e]; decide
      rw [h1, h2]
    · simp only [if_neg e]

theorem pop_stk {stk : List (Fr × List Nat)} {f : Fr} {s : List Nat} (hc : Core g rank small ranked (pend ((f, s) :: stk))) (h : Stk g rank small none ((f, s) :: stk)) (hl : f.low = rank f.node) :
    Stk g (fun v => if v ∈ s then MX else rank v) (fun v => if v ∈ s then f.small else small v) none (upd f [] stk) := by
  have hso := hc.sorted
  simp only [pend] at hso
  rw [List.pairwise_append] at hso
  obtain ⟨t, ht⟩ := h.1.head
  have hfs : f.node ∈ s := by rw [ht]; exact List.mem_cons_self
  have hdis : ∀ v, v ∈ pend stk → v ∉ s := fun v hv hs => by have := hso.2.2 v hv v hs; omega
  have hMs : ∀ v, v ∈ s → rank v ≠ MX := fun v hv e => by
    have h1 := (hc.pin v (by simp only [pend, List.mem_append]; exact Or.inr hv)).2.2.2
    have := hc.lim; have := hc.cnt; have := count_le g rank
    rw [e] at h1; unfold MX at h1; omega
  have hst : Stk g (fun v => if v ∈ s then MX else rank v) (fun v => if v ∈ s then f.small else small v) (some f.node) stk := by
    refine h.2.2.congr (fun v hv => by simp only [if_neg (hdis v hv)]) (fun v hv => ?_)
    have hn : v ∉ s := fun hs => hMs v hs hv
    simp only [if_neg hn]; exact ⟨hv, trivial⟩
  cases stk with
  | nil => trivial
  | cons q r =>
    obtain ⟨p, sp⟩ := q
    have hE := h.2.1 (p, sp) rfl
    obtain ⟨tp, htp⟩ := h.2.2.1.head
    have hps : p.node ∈ sp := by rw [htp]; exact List.mem_cons_self
    have hpp : p.node ∈ pend ((p, sp) :: r) := by simp only [pend, List.mem_append]; exact Or.inr hps
    have hlt : rank p.node < rank f.node := hso.2.2 _ hpp _ hfs
    have hlo : p.low ≤ f.low := by have := h.2.2.1.lowle; omega
    have hs1 : min p.small f.small ≤ p.small := Int.min_le_left _ _
    have hs2 : min p.small f.small ≤ f.small := Int.min_le_right _ _
    have ho := hst.1
    refine ⟨?_, hst.2.1, hst.2.2⟩
    simp only [List.append_nil]
    have em : min p.low f.low = p.low := Int.min_eq_left hlo
    refine { head := ho.head, here := ho.here, sub := ho.sub, to := ho.to, back := ho.back, lowle := ?_, lowat := ?_, smle := ?_, smat := ?_, edges := ?_ }
    · show min p.low f.low ≤ _; rw [em]; exact ho.lowle
    · show ∃ y, _ ∧ _ = min p.low f.low ∧ _; rw [em]; exact ho.lowat
    · intro u hu; have := ho.smle u hu; show min p.small f.small ≤ _; omega
    · show ∃ z, Reach g p.node z ∧ g.val z = min p.small f.small
      by_cases hle : p.small ≤ f.small
      · rw [Int.min_eq_left hle]; exact ho.smat
      · rw [Int.min_eq_right (by omega)]
        obtain ⟨y, ry, ey⟩ := h.1.smat
        exact ⟨y, Reach.head hE ry, ey⟩
    · intro u hu y e
      rcases ho.edges u hu y e with a | ⟨a, b⟩ | ⟨a, b⟩ | a
      · exact Or.inl a
      · exact Or.inr (Or.inl ⟨a, by show min p.small f.small ≤ _; omega⟩)
      · exact Or.inr (Or.inr (Or.inl ⟨a, by show min p.low f.low ≤ _; omega⟩))
      · cases a
        refine Or.inr (Or.inl ⟨by simp only [if_pos hfs], ?_⟩)
        show min p.small f.small ≤ _
        simp only [if_pos hfs]; exact hs2

/-- POP, the component still open: it goes to the parent's segment -/
theorem merge_stk {stk : List (Fr × List Nat)} {f : Fr} {s : List Nat} (hc : Core g rank small ranked (pend ((f, s) :: stk))) (h : Stk g rank small none ((f, s) :: stk)) (hi : f.ids = []) (hl : f.low ≠ rank f.node) :
    stk ≠ [] ∧ Stk g rank small none (upd f s stk) := by
  have hso := hc.sorted
  simp only [pend] at hso
  rw [List.pairwise_append] at hso
  obtain ⟨t, ht⟩ := h.1.head
  have hfs : f.node ∈ s := by rw [ht]; exact List.mem_cons_self
  have hll : f.low < rank f.node := by have := h.1.lowle; omega
  have hge : ∀ y, y ∈ s → rank f.node ≤ rank y := by
    intro y hy
    have hs := hso.2.1
    rw [ht] at hs hy
    rw [List.pairwise_cons] at hs
    rcases List.mem_cons.1 hy with e | e
    · subst e; exact Int.le_refl _
    · have := hs.1 y e; omega
  obtain ⟨y, hy, ey, ry⟩ := h.1.lowat
  have hyb : y ∈ pend stk := by
    rcases hy with a | a
    · exact a
    · have := hge y a; omega
  cases stk with
  | nil => cases hyb
  | cons q r =>
    refine ⟨by simp, ?_⟩
    obtain ⟨p, sp⟩ := q
    have hE := h.2.1 (p, sp) rfl
    have hyp : Reach g y p.node := back_top h.2.2 y hyb
    have hfp : Reach g f.node p.node := ry.trans hyp
    obtain ⟨tp, htp⟩ := h.2.2.1.head
    have hps : p.node ∈ sp := by rw [htp]; exact List.mem_cons_self
    have hpp : p.node ∈ pend ((p, sp) :: r) := by simp only [pend, List.mem_append]; exact Or.inr hps
    have hlt : rank p.node < rank f.node := hso.2.2 _ hpp _ hfs
    have hl1 : min p.low f.low ≤ p.low := Int.min_le_left _ _
    have hl2 : min p.low f.low ≤ f.low := Int.min_le_right _ _
    have hs1 : min p.small f.small ≤ p.small := Int.min_le_left _ _
    have hs2 : min p.small f.small ≤ f.small := Int.min_le_right _ _
    have ho := h.2.2.1
    have hpl := ho.lowle
    refine ⟨?_, h.2.2.2.1, h.2.2.2.2⟩
    refine { head := ⟨tp ++ s, by rw [htp]; rfl⟩, here := ho.here, sub := ho.sub, to := ?_, back := ?_, lowle := ?_, lowat := ?_, smle := ?_, smat := ?_, edges := ?_ }
    · intro u hu
      rcases List.mem_append.1 hu with hu | hu
      · exact ho.to u hu
      · exact Reach.head hE (h.1.to u hu)
    · intro u hu
      rcases List.mem_append.1 hu with hu | hu
      · exact ho.back u hu
      · exact (h.1.back u hu).trans hfp
    · show min p.low f.low ≤ rank p.node; omega
    · show ∃ z, (z ∈ pend r ∨ z ∈ sp ++ s) ∧ rank z = min p.low f.low ∧ Reach g p.node z
      by_cases hle : p.low ≤ f.low
      · rw [Int.min_eq_left hle]
        obtain ⟨z, hz, ez, rz⟩ := ho.lowat
        exact ⟨z, by rcases hz with a | a; exact Or.inl a; exact Or.inr (List.mem_append.2 (Or.inl a)), ez, rz⟩
      · rw [Int.min_eq_right (by omega)]
        simp only [pend, List.mem_append] at hyb
        exact ⟨y, by rcases hyb with a | a; exact Or.inl a; exact Or.inr (List.mem_append.2 (Or.inl a)), ey, Reach.head hE ry⟩
    · intro u hu
      show min p.small f.small ≤ _
      rcases List.mem_append.1 hu with hu | hu
      · have := ho.smle u hu; omega
      · have := h.1.smle u hu; omega
    · show ∃ z, Reach g p.node z ∧ g.val z = min p.small f.small
      by_cases hle : p.small ≤ f.small
      · rw [Int.min_eq_left hle]; exact ho.smat
      · rw [Int.min_eq_right (by omega)]
        obtain ⟨z, rz, ez⟩ := h.1.smat
        exact ⟨z, Reach.head hE rz, ez⟩
    · intro u hu z e
      show (u = p.node ∧ (z : Int) ∈ p.ids) ∨ (rank z = MX ∧ min p.small f.small ≤ small z) ∨ ((z ∈ sp ++ s ∨ z ∈ pend r) ∧ min p.low f.low ≤ rank z) ∨ _
      rcases List.mem_append.1 hu with hu | hu
      · rcases ho.edges u hu z e with a | ⟨a, b⟩ | ⟨a, b⟩ | a
        · exact Or.inl a
        · exact Or.inr (Or.inl ⟨a, by omega⟩)
        · refine Or.inr (Or.inr (Or.inl ⟨?_, by omega⟩))
          rcases a with a | a
          · exact Or.inl (List.mem_append.2 (Or.inl a))
          · exact Or.inr a
        · cases a
          exact Or.inr (Or.inr (Or.inl ⟨Or.inl (List.mem_append.2 (Or.inr hfs)), by omega⟩))
      · rcases h.1.edges u hu z e with ⟨_, b⟩ | ⟨a, b⟩ | ⟨a, b⟩ | a
        · rw [hi] at b; cases b
        · exact Or.inr (Or.inl ⟨a, by omega⟩)
        · refine Or.inr (Or.inr (Or.inl ⟨?_, by omega⟩))
          rcases a with a | a
          · exact Or.inl (List.mem_append.2 (Or.inr a))
          · simp only [pend, List.mem_append] at a
            rcases a with a | a
            · exact Or.inr a
            · exact Or.inl (List.mem_append.2 (Or.inl a))
        · cases a

end
end Go.Proofs.YbulkcawkDoor.T
