import Derived.Test.YbulkcawkDoorWalks1
import Derived.Test.YbulkcawkDoorBut
import Derived.Deep.RegionLaw
import Derived.WalkSmall
namespace Go.Proofs.YbulkcawkDoor.D
open Go.RowKit

theorem info21 : (Ybad.prog.info? 21).map (fun i => (i.zero, i.size, i.bytes)) = some (some (.int .i32 0), 1, 4) := by kernel_rfl
theorem info56 : (Ybad.prog.info? 56).map (fun i => (i.zero, i.size, i.bytes)) = some (some (.agg #[.slice none 0 0, .int .i32 0, .int .i32 0, .int .i32 0]), 4, 40) := by kernel_rfl

/-- 'append' on a row of the call's own, as one step of a region that draws its order -/
theorem step_append_own {P : Program} {ops : Array Oper} {o : Oper} {a : Act} {w : World} {K : Act → World → Prop} {Q : Exit → Act → World → Prop} {E : Prop} (hgd : o.guard = none) (s x : Operand) (t : TypeId)
    (ho : o.op = .call { callee := .builtin .append, args := #[s, x], argTypes := #[t, t] })
    (base : Nat) (e : TypeId) (i : TypeInfo) (z : Value) (size bytes : Nat) (ht : P.underlying t = some (.slice e)) (hi : P.info? e = some i) (hz : i.zero = some z)
    (hsize : i.size = size) (hby : i.bytes = bytes) (hzs : z.cells.size = size) (hsz : 0 < size)
    (v : Value) (n : Nat) (xs : List Value) (hs : a.eval s = v) (hown : w.ownsRow base e size v n xs)
    (ad : Addr) (m c : Nat) (news : List Value) (hx : a.eval x = .slice (some ad) m c) (hl : news.length = m * size) (hnews : ∀ j u, news[j]? = some u → w.cell? (ad.add j) = some u) (h1 : ∀ u ∈ news, u.oneCell' = true)
    (h63 : n + m ≤ maxLen) (hbytes : (n + m) * bytes ≤ 140737488355328) (hbase : base ≤ w.heap.size)
    (h : ∀ v' w', w'.ownsRow base e size v' (n + m) (xs ++ news) → w.grownBy w' v.ownBlock → K (a.put o.dst v') w') :
    if Region.wanted o (yielded ops a.tmps) = true then Oper.wp P o a w K Q else E := by
  have hw : Region.wanted o (yielded ops a.tmps) = true := by simp [Region.wanted, hgd]
  rw [if_pos hw]
  exact wp_append_own w s x t ho base e i z size bytes ht hi hz hsize hby hzs hsz v n xs hs hown ad m c news hx hl hnews h1 h63 hbytes hbase fun v' w' h2 h3 _ => h v' w' h2 h3

/-- where the graph lies -/
structure GP where
  gb : Nat
  sb : Nat
  nb : Nat
  B : Nat
  mb : Nat → Nat
  la : Nat → Option Addr
  ll : Nat → Nat
  lc : Nat → Nat

/-- a slice of ids below block B -/
def Ids (w : World) (B : Nat) (a : Option Addr) (l : Nat) (ids : List Int) : Prop :=
  ids.length = l ∧ ∀ j, j < l → ∃ b off, a = some ⟨b, off, none⟩ ∧ b < B ∧ w.cell? ⟨b, off + j, none⟩ = some (.int .i32 (ids.getD j 0))

/-- the blocks that the walk may write -/
def Dyn (p : GP) (k : Nat) : Prop := k = p.gb ∨ k = p.nb ∨ p.B ≤ k

/-- what the walk never writes: the messages -/
structure Stat (w : World) (p : GP) (g : T.Gr) : Prop where
  gB : p.gb < p.B
  nB : p.nb < p.B
  sB : p.sb < p.B
  gn : p.gb ≠ p.nb
  sg : p.sb ≠ p.gb
  sn : p.sb ≠ p.nb
  sz : p.B ≤ w.heap.size
  sent : ∀ i, i < g.n → w.cell? ⟨p.sb, i, none⟩ = some (.pointer (if g.here i then some ⟨p.mb i, 0, none⟩ else none))
  mlt : ∀ i, i < g.n → g.here i = true → p.mb i < p.B ∧ p.mb i ≠ p.gb ∧ p.mb i ≠ p.nb
  mval : ∀ i, i < g.n → g.here i = true → w.cell? ⟨p.mb i, 0, none⟩ = some (.int .i32 (g.val i))
  mlis : ∀ i, i < g.n → g.here i = true → w.cell? ⟨p.mb i, 1, none⟩ = some (.slice (p.la i) (p.ll i) (p.lc i))
  mids : ∀ i, i < g.n → g.here i = true → Ids w p.B (p.la i) (p.ll i) (g.ids i) ∧ (p.la i = none → p.lc i = 0) ∧ p.ll i ≤ p.lc i
  mnot : ∀ i, i < g.n → g.here i = true → ∀ b off, p.la i = some ⟨b, off, none⟩ → b ≠ p.gb ∧ b ≠ p.nb
  big : ∀ i, i < g.n → p.ll i ≤ 4096
  idw : ∀ i, i < g.n → ∀ x, x ∈ g.ids i → -2147483648 ≤ x ∧ x ≤ 2147483647

theorem Ids.but {S : Nat → Prop} {w w' : World} {B : Nat} {a : Option Addr} {l : Nat} {ids : List Int} (h : Ids w B a l ids) (hb : But S w w') (hs : ∀ b off, a = some ⟨b, off, none⟩ → b < B → ¬ S b) : Ids w' B a l ids :=
  ⟨h.1, fun j hj => by
    obtain ⟨b, off, h1, h2, h3⟩ := h.2 j hj
    exact ⟨b, off, h1, h2, hb.cellSome h3 (hs b off h1 h2)⟩⟩

theorem Stat.but {w w' : World} {p : GP} {g : T.Gr} (h : Stat w p g) (hb : But (Dyn p) w w') : Stat w' p g :=
  { gB := h.gB, nB := h.nB, sB := h.sB, gn := h.gn, sg := h.sg, sn := h.sn, sz := Nat.le_trans h.sz hb.size,
    sent := fun i hi => hb.cellSome (h.sent i hi) (by intro e; rcases e with e | e | e; exact h.sg e; exact h.sn e; have := h.sB; simp at e; omega),
    mlt := h.mlt,
    mval := fun i hi hh => hb.cellSome (h.mval i hi hh) (by have := h.mlt i hi hh; intro e; rcases e with e | e | e; exact this.2.1 e; exact this.2.2 e; simp at e; omega),
    mlis := fun i hi hh => hb.cellSome (h.mlis i hi hh) (by have := h.mlt i hi hh; intro e; rcases e with e | e | e; exact this.2.1 e; exact this.2.2 e; simp at e; omega),
    mids := fun i hi hh => ⟨(h.mids i hi hh).1.but hb (fun b off e hbB => by have := h.mnot i hi hh b off e; intro e; rcases e with e | e | e; exact this.1 e; exact this.2 e; omega), (h.mids i hi hh).2⟩,
    mnot := h.mnot, big := h.big, idw := h.idw }

/-- what the walk writes: the graph's own cells and the nodes' records -/
structure Dy (w : World) (p : GP) (n : Nat) (rank small : Nat → Int) (ranked : Int) (pv fv : Value) : Prop where
  c0 : w.cell? ⟨p.gb, 0, none⟩ = some (.slice (some ⟨p.sb, 0, none⟩) n n)
  c1 : w.cell? ⟨p.gb, 1, none⟩ = some (.slice (some ⟨p.nb, 0, none⟩) n n)
  c2 : w.cell? ⟨p.gb, 2, none⟩ = some (.int .i32 ranked)
  c3 : w.cell? ⟨p.gb, 3, none⟩ = some pv
  c4 : w.cell? ⟨p.gb, 4, none⟩ = some fv
  fz : ∀ j, w.frozen? ⟨p.gb, j, none⟩ = false
  rk : ∀ v, v < n → w.cell? ⟨p.nb, v * 2, none⟩ = some (.int .i32 (rank v))
  sm : ∀ v, v < n → w.cell? ⟨p.nb, v * 2 + 1, none⟩ = some (.int .i32 (small v))
  nf : ∀ j, w.frozen? ⟨p.nb, j, none⟩ = false

section
variable {w w' : World} {p : GP} {n : Nat} {rank small : Nat → Int} {ranked : Int} {pv fv : Value}

theorem Dy.but {S : Nat → Prop} (h : Dy w p n rank small ranked pv fv) (hb : But S w w') (hg : ¬ S p.gb) (hn : ¬ S p.nb) (hgl : p.gb < w.heap.size) (hnl : p.nb < w.heap.size) : Dy w' p n rank small ranked pv fv :=
  { c0 := hb.cellSome h.c0 hg, c1 := hb.cellSome h.c1 hg, c2 := hb.cellSome h.c2 hg, c3 := hb.cellSome h.c3 hg, c4 := hb.cellSome h.c4 hg, fz := fun j => (hb.frozen (by exact hgl) hg).trans (h.fz j),
    rk := fun v hv => hb.cellSome (h.rk v hv) hn, sm := fun v hv => hb.cellSome (h.sm v hv) hn, nf := fun j => (hb.frozen (by exact hnl) hn).trans (h.nf j) }

theorem Dy.drew (h : Dy w p n rank small ranked pv fv) : Dy w.drew p n rank small ranked pv fv :=
  { c0 := h.c0, c1 := h.c1, c2 := h.c2, c3 := h.c3, c4 := h.c4, fz := h.fz, rk := h.rk, sm := h.sm, nf := h.nf }

theorem Dy.set2 (h : Dy w p n rank small ranked pv fv) (gn : p.gb ≠ p.nb) (r : Int) : Dy (w.setCell ⟨p.gb, 2, none⟩ (.int .i32 r)) p n rank small r pv fv :=
  { c0 := by rw [cell_off _ (by omega)]; exact h.c0, c1 := by rw [cell_off _ (by omega)]; exact h.c1, c2 := cell_same _ h.c2, c3 := by rw [cell_off _ (by omega)]; exact h.c3, c4 := by rw [cell_off _ (by omega)]; exact h.c4, fz := fun j => by simpa using h.fz j,
    rk := fun v hv => by rw [cell_blk _ gn]; exact h.rk v hv, sm := fun v hv => by rw [cell_blk _ gn]; exact h.sm v hv, nf := fun j => by simpa using h.nf j }

theorem Dy.set3 (h : Dy w p n rank small ranked pv fv) (gn : p.gb ≠ p.nb) (r : Value) : Dy (w.setCell ⟨p.gb, 3, none⟩ r) p n rank small ranked r fv :=
  { c0 := by rw [cell_off _ (by omega)]; exact h.c0, c1 := by rw [cell_off _ (by omega)]; exact h.c1, c2 := by rw [cell_off _ (by omega)]; exact h.c2, c3 := cell_same _ h.c3, c4 := by rw [cell_off _ (by omega)]; exact h.c4, fz := fun j => by simpa using h.fz j,
    rk := fun v hv => by rw [cell_blk _ gn]; exact h.rk v hv, sm := fun v hv => by rw [cell_blk _ gn]; exact h.sm v hv, nf := fun j => by simpa using h.nf j }

theorem Dy.set4 (h : Dy w p n rank small ranked pv fv) (gn : p.gb ≠ p.nb) (r : Value) : Dy (w.setCell ⟨p.gb, 4, none⟩ r) p n rank small ranked pv r :=
  { c0 := by rw [cell_off _ (by omega)]; exact h.c0, c1 := by rw [cell_off _ (by omega)]; exact h.c1, c2 := by rw [cell_off _ (by omega)]; exact h.c2, c3 := by rw [cell_off _ (by omega)]; exact h.c3, c4 := cell_same _ h.c4, fz := fun j => by simpa using h.fz j,
    rk := fun v hv => by rw [cell_blk _ gn]; exact h.rk v hv, sm := fun v hv => by rw [cell_blk _ gn]; exact h.sm v hv, nf := fun j => by simpa using h.nf j }

theorem Dy.setRank (h : Dy w p n rank small ranked pv fv) (gn : p.gb ≠ p.nb) (y : Nat) (hy : y < n) (r : Int) : Dy (w.setCell ⟨p.nb, y * 2, none⟩ (.int .i32 r)) p n (fun v => if v = y then r else rank v) small ranked pv fv :=
  { c0 := by rw [cell_blk _ gn.symm]; exact h.c0, c1 := by rw [cell_blk _ gn.symm]; exact h.c1, c2 := by rw [cell_blk _ gn.symm]; exact h.c2, c3 := by rw [cell_blk _ gn.symm]; exact h.c3, c4 := by rw [cell_blk _ gn.symm]; exact h.c4, fz := fun j => by simpa using h.fz j,
    rk := fun v hv => by
      by_cases e : v = y
      · subst e; simp only [if_true]; exact cell_same _ (h.rk v hv)
      · simp only [if_neg e]; rw [cell_off _ (by omega)]; exact h.rk v hv,
    sm := fun v hv => by rw [cell_off _ (by omega)]; exact h.sm v hv, nf := fun j => by simpa using h.nf j }

theorem Dy.setSmall (h : Dy w p n rank small ranked pv fv) (gn : p.gb ≠ p.nb) (y : Nat) (hy : y < n) (r : Int) : Dy (w.setCell ⟨p.nb, y * 2 + 1, none⟩ (.int .i32 r)) p n rank (fun v => if v = y then r else small v) ranked pv fv :=
  { c0 := by rw [cell_blk _ gn.symm]; exact h.c0, c1 := by rw [cell_blk _ gn.symm]; exact h.c1, c2 := by rw [cell_blk _ gn.symm]; exact h.c2, c3 := by rw [cell_blk _ gn.symm]; exact h.c3, c4 := by rw [cell_blk _ gn.symm]; exact h.c4, fz := fun j => by simpa using h.fz j,
    sm := fun v hv => by
      by_cases e : v = y
      · subst e; simp only [if_true]; exact cell_same _ (h.sm v hv)
      · simp only [if_neg e]; rw [cell_off _ (by omega)]; exact h.sm v hv,
    rk := fun v hv => by rw [cell_off _ (by omega)]; exact h.rk v hv, nf := fun j => by simpa using h.nf j }
end

/-- two owned rows of different types lie in different blocks -/
theorem own_ne {w : World} {B B' e e' s s' n n' : Nat} {v v' : Value} {xs xs' : List Value} (h : w.ownsRow B e s v n xs) (h' : w.ownsRow B' e' s' v' n' xs') (he : e ≠ e') : v.ownBlock = none ∨ v.ownBlock ≠ v'.ownBlock := by
  rcases h.2 with ⟨rfl, _⟩ | ⟨g, cap, cur, rfl, _, hg, _⟩
  · exact Or.inl rfl
  · right
    rcases h'.2 with ⟨rfl, _⟩ | ⟨g', cap', cur', rfl, _, hg', _⟩
    · simp [Value.ownBlock]
    · simp only [Value.ownBlock]
      intro e
      cases e
      rw [hg] at hg'
      cases hg'
      exact he rfl

/-- an owned row stays where the blocks from B on are as they were -/
theorem own_but {S : Nat → Prop} {w w' : World} {B e s n : Nat} {v : Value} {xs : List Value} (h : w.ownsRow B e s v n xs) (hb : But S w w') (hs : ∀ k, v.ownBlock = some k → ¬ S k) : w'.ownsRow B e s v n xs := by
  refine ⟨h.1, ?_⟩
  rcases h.2 with h1 | ⟨g, cap, cur, rfl, hB, hg, r⟩
  · exact Or.inl h1
  · refine Or.inr ⟨g, cap, cur, rfl, hB, ?_, r⟩
    rw [hb.block g (Array.getElem?_eq_some_iff.1 hg).1 (hs g rfl)]; exact hg

/-- a frame as it lies in memory -/
structure FM where
  a : Option Addr
  l : Nat
  c : Nat
  fr : T.Fr

def fcells (x : FM) : List Value := [.slice x.a x.l x.c, .int .i32 x.fr.node, .int .i32 x.fr.low, .int .i32 x.fr.small]

structure FMok (w : World) (p : GP) (x : FM) : Prop where
  ids : Ids w p.B x.a x.l x.fr.ids
  nil : x.a = none → x.c = 0
  cap : x.l ≤ x.c
  not : ∀ b off, x.a = some ⟨b, off, none⟩ → b ≠ p.gb ∧ b ≠ p.nb
  big : x.l ≤ 4096
  idw : ∀ i, i ∈ x.fr.ids → -2147483648 ≤ i ∧ i ≤ 2147483647

theorem FMok.but {w w' : World} {p : GP} {x : FM} (h : FMok w p x) (hb : But (Dyn p) w w') : FMok w' p x :=
  { h with ids := h.ids.but hb (fun b off e hbB => by have := h.not b off e; intro e; rcases e with e | e | e; exact this.1 e; exact this.2 e; omega) }

/-- the graph in memory: static part, written part, the two rows -/
structure GM (w : World) (p : GP) (g : T.Gr) (rank small : Nat → Int) (ranked : Nat) (ps : List Nat) (fs : List FM) (pv fv : Value) : Prop where
  st : Stat w p g
  dy : Dy w p g.n rank small ranked pv fv
  pend : w.ownsRow p.B 21 1 pv ps.length (ps.map fun v : Nat => Value.int .i32 (v : Int))
  frames : w.ownsRow p.B 56 4 fv fs.length (fs.flatMap fcells)
  fok : ∀ x, x ∈ fs → FMok w p x

end Go.Proofs.YbulkcawkDoor.D
