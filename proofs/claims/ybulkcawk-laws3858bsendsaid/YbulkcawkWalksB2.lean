import Derived.Test.YbulkcawkWalksB1
import Derived.Deep.RegionWith
namespace Go.Proofs.Ybulkcawk.PB
open Go.RowKit

/-- the log of a copy: empty if it had returned, else just the round -/
def LogIs (B : Nat) (w : World) (b : Nat) (ret : Bool) (r : Int) : Prop :=
  if ret then w.cell? ⟨b, 1, none⟩ = some (.slice none 0 0) else Log1 B w ⟨b, 1, none⟩ r

/-- what is stored of a copy's outbox -/
def sentOf (ret : Bool) (pay : Int) : Value := if ret then .nilIface else pays pay

theorem facts1 {N : Nat} {id : Int} {rA rB : Bool} {payA payB : Int} {v1 v2 v3 v6 v7 v8 v9 : Value} {w w1 : World} (n0 : N < w.heap.size) (n1 : N + 1 < w.heap.size) (n3 : N + 3 < w.heap.size)
    (hb : But (· = N + 2) (w.alloc (.cells #[.nilIface, .nilFunc] 42)) w1)
    (a0 : w.cell? ⟨N, 0, none⟩ = some (.int .i64 payA)) (a1 : w.cell? ⟨N, 1, none⟩ = some (.slice none 0 0)) (fa : w.frozen? ⟨N, 1, none⟩ = false)
    (b0 : w.cell? ⟨N + 1, 0, none⟩ = some (.int .i64 payB)) (b1 : w.cell? ⟨N + 1, 1, none⟩ = some (.slice none 0 0)) (fb : w.frozen? ⟨N + 1, 1, none⟩ = false)
    (g0 : w.cell? ⟨N + 3, 0, none⟩ = some (.int .i64 id)) (g1 : w.cell? ⟨N + 3, 1, none⟩ = some v1) (g2 : w.cell? ⟨N + 3, 2, none⟩ = some v2)
    (g3 : w.cell? ⟨N + 3, 3, none⟩ = some v3) (g4 : w.cell? ⟨N + 3, 4, none⟩ = some (.bool rA)) (g5 : w.cell? ⟨N + 3, 5, none⟩ = some (.bool rB))
    (g6 : w.cell? ⟨N + 3, 6, none⟩ = some v6) (g7 : w.cell? ⟨N + 3, 7, none⟩ = some v7) (g8 : w.cell? ⟨N + 3, 8, none⟩ = some v8) (g9 : w.cell? ⟨N + 3, 9, none⟩ = some v9)
    (fg : ∀ j, w.frozen? ⟨N + 3, j, none⟩ = false) :
    w.heap.size < w1.heap.size ∧ w1.cell? ⟨N, 0, none⟩ = some (.int .i64 payA) ∧ w1.cell? ⟨N, 1, none⟩ = some (.slice none 0 0) ∧ w1.frozen? ⟨N, 1, none⟩ = false ∧
    w1.cell? ⟨N + 1, 0, none⟩ = some (.int .i64 payB) ∧ w1.cell? ⟨N + 1, 1, none⟩ = some (.slice none 0 0) ∧ w1.frozen? ⟨N + 1, 1, none⟩ = false ∧
    w1.cell? ⟨N + 3, 0, none⟩ = some (.int .i64 id) ∧ w1.cell? ⟨N + 3, 1, none⟩ = some v1 ∧ w1.cell? ⟨N + 3, 2, none⟩ = some v2 ∧
    w1.cell? ⟨N + 3, 3, none⟩ = some v3 ∧ w1.cell? ⟨N + 3, 4, none⟩ = some (.bool rA) ∧ w1.cell? ⟨N + 3, 5, none⟩ = some (.bool rB) ∧
    w1.cell? ⟨N + 3, 6, none⟩ = some v6 ∧ w1.cell? ⟨N + 3, 7, none⟩ = some v7 ∧ w1.cell? ⟨N + 3, 8, none⟩ = some v8 ∧ w1.cell? ⟨N + 3, 9, none⟩ = some v9 ∧ (∀ j, w1.frozen? ⟨N + 3, j, none⟩ = false) ∧
    w1.cell? ⟨w.heap.size, 0, none⟩ = some .nilIface ∧ w1.cell? ⟨w.heap.size, 1, none⟩ = some .nilFunc ∧ (∀ j, w1.frozen? ⟨w.heap.size, j, none⟩ = false) := by
  have hz : (w.alloc (.cells #[.nilIface, .nilFunc] 42)).heap.size = w.heap.size + 1 := by simp
  have old : ∀ {b o : Nat} {v : Value}, b < w.heap.size → b ≠ N + 2 → w.cell? ⟨b, o, none⟩ = some v → w1.cell? ⟨b, o, none⟩ = some v := fun h1 h2 h3 =>
    hb.cellSome (by rw [World.cell?_alloc_past _ _ _ h1]; exact h3) h2
  have oldf : ∀ {b o : Nat}, b < w.heap.size → b ≠ N + 2 → w.frozen? ⟨b, o, none⟩ = false → w1.frozen? ⟨b, o, none⟩ = false := fun h1 h2 h3 =>
    (hb.frozen (by show _ < _; rw [hz]; exact Nat.lt_succ_of_lt h1) h2).trans (by rw [World.frozen?_alloc_past _ _ _ h1]; exact h3)
  refine ⟨by have := hb.size; omega, old n0 (by omega) a0, old n0 (by omega) a1, oldf n0 (by omega) fa, old n1 (by omega) b0, old n1 (by omega) b1, oldf n1 (by omega) fb,
    old n3 (by omega) g0, old n3 (by omega) g1, old n3 (by omega) g2, old n3 (by omega) g3, old n3 (by omega) g4, old n3 (by omega) g5, old n3 (by omega) g6, old n3 (by omega) g7, old n3 (by omega) g8, old n3 (by omega) g9,
    fun j => oldf n3 (by omega) (fg j), hb.cellSome (by simp) (by show w.heap.size ≠ _; omega), hb.cellSome (by simp) (by show w.heap.size ≠ _; omega), fun j => (hb.frozen (by simp) (by show w.heap.size ≠ _; omega)).trans (by simp)⟩

/-- the world while Send goes over its copies: 'k' of them are done -/
structure Mid (N : Nat) (id r : Int) (rA rB : Bool) (payA payB : Int) (fs : Value) (w : World) (k : Nat) (wr : World) : Prop where
  bt : But (fun b => N ≤ b ∧ b < N + 4) w wr
  m : w.heap.size < wr.heap.size
  c0 : wr.cell? ⟨N + 2, 0, none⟩ = some fs
  lc : Log1 (w.heap.size + 1) wr ⟨N + 2, 1, none⟩ r
  a0 : k = 0 → wr.cell? ⟨N, 0, none⟩ = some (.int .i64 payA)
  a1 : k = 0 → wr.cell? ⟨N, 1, none⟩ = some (.slice none 0 0)
  fa : k = 0 → wr.frozen? ⟨N, 1, none⟩ = false
  b0 : k ≤ 1 → wr.cell? ⟨N + 1, 0, none⟩ = some (.int .i64 payB)
  b1 : k ≤ 1 → wr.cell? ⟨N + 1, 1, none⟩ = some (.slice none 0 0)
  fb : k ≤ 1 → wr.frozen? ⟨N + 1, 1, none⟩ = false
  la : 1 ≤ k → LogIs (w.heap.size + 1) wr N rA r
  lb : 2 ≤ k → LogIs (w.heap.size + 1) wr (N + 1) rB r
  g0 : wr.cell? ⟨N + 3, 0, none⟩ = some (.int .i64 id)
  g3 : wr.cell? ⟨N + 3, 3, none⟩ = some (.iface 32 (.pointer (some ⟨N + 2, 0, none⟩)))
  g4 : wr.cell? ⟨N + 3, 4, none⟩ = some (.bool rA)
  g5 : wr.cell? ⟨N + 3, 5, none⟩ = some (.bool rB)
  g6 : ∃ v, wr.cell? ⟨N + 3, 6, none⟩ = some v ∧ (1 ≤ k → v = sentOf rA payA)
  g7 : wr.cell? ⟨N + 3, 7, none⟩ = some .nilFunc
  g8 : ∃ v, wr.cell? ⟨N + 3, 8, none⟩ = some v ∧ (2 ≤ k → v = sentOf rB payB)
  g9 : wr.cell? ⟨N + 3, 9, none⟩ = some .nilFunc
  fg : ∀ j, wr.frozen? ⟨N + 3, j, none⟩ = false
  q0 : wr.cell? ⟨w.heap.size, 0, none⟩ = some .nilIface
  q1 : wr.cell? ⟨w.heap.size, 1, none⟩ = some .nilFunc
  qf : ∀ j, wr.frozen? ⟨w.heap.size, j, none⟩ = false

theorem LogIs.set {B : Nat} {w : World} {b : Nat} {ret : Bool} {r : Int} {a : Addr} (h : LogIs B w b ret r) (hp : a ≠ ⟨b, 1, none⟩) (ha : a.block < B) (u : Value) : LogIs B (w.setCell a u) b ret r := by
  unfold LogIs at *
  split
  · rename_i e; rw [if_pos e] at h; rw [cell_other _ hp]; exact h
  · rename_i e; rw [if_neg e] at h; exact h.set hp ha u

theorem LogIs.but {B : Nat} {S : Nat → Prop} {w w' : World} {b : Nat} {ret : Bool} {r : Int} (h : LogIs B w b ret r) (hb : But S w w') (hp : ¬ S b) (hs : ∀ k, B ≤ k → ¬ S k) : LogIs B w' b ret r := by
  unfold LogIs at *
  split
  · rename_i e; rw [if_pos e] at h; exact hb.cellSome h hp
  · rename_i e; rw [if_neg e] at h; exact h.but hb hp hs

theorem mid_end {N : Nat} {id r : Int} {rA rB : Bool} {payA payB : Int} {fs : Value} {w wr : World} {x y : Value} (hN : N + 4 ≤ w.heap.size) (h : Mid N id r rA rB payA payB fs w 2 wr) :
    let w' := (wr.setCell ⟨w.heap.size, 0, none⟩ x).setCell ⟨w.heap.size, 1, none⟩ y
    But (fun k => N ≤ k ∧ k < N + 4) w w' ∧
      w'.cell? ⟨N + 2, 0, none⟩ = some fs ∧ Log1 (w.heap.size + 1) w' ⟨N + 2, 1, none⟩ r ∧ LogIs (w.heap.size + 1) w' N rA r ∧ LogIs (w.heap.size + 1) w' (N + 1) rB r ∧
      w'.cell? ⟨N + 3, 0, none⟩ = some (.int .i64 id) ∧ w'.cell? ⟨N + 3, 3, none⟩ = some (.iface 32 (.pointer (some ⟨N + 2, 0, none⟩))) ∧ w'.cell? ⟨N + 3, 4, none⟩ = some (.bool rA) ∧ w'.cell? ⟨N + 3, 5, none⟩ = some (.bool rB) ∧
      w'.cell? ⟨N + 3, 6, none⟩ = some (sentOf rA payA) ∧ w'.cell? ⟨N + 3, 7, none⟩ = some .nilFunc ∧ w'.cell? ⟨N + 3, 8, none⟩ = some (sentOf rB payB) ∧ w'.cell? ⟨N + 3, 9, none⟩ = some .nilFunc := by
  intro w'
  have c : ∀ {b o : Nat} {v : Value}, b < N + 4 → wr.cell? ⟨b, o, none⟩ = some v → w'.cell? ⟨b, o, none⟩ = some v := by
    intro b o v hb hv
    show ((wr.setCell _ _).setCell _ _).cell? _ = _
    rw [cell_blk _ (by omega), cell_blk _ (by omega)]; exact hv
  obtain ⟨x6, y6, z6⟩ := h.g6
  obtain ⟨x8, y8, z8⟩ := h.g8
  have e6 := z6 (by omega)
  have e8 := z8 (by omega)
  subst e6 e8
  exact ⟨(h.bt.setCell (Or.inr (Nat.le_refl _)) _).setCell (Or.inr (Nat.le_refl _)) _, c (by omega) h.c0,
    (h.lc.set (ne_blk (by omega)) (by simp) _).set (ne_blk (by omega)) (by simp) _,
    ((h.la (by omega)).set (ne_blk (by omega)) (by simp) _).set (ne_blk (by omega)) (by simp) _,
    ((h.lb (by omega)).set (ne_blk (by omega)) (by simp) _).set (ne_blk (by omega)) (by simp) _,
    c (by omega) h.g0, c (by omega) h.g3, c (by omega) h.g4, c (by omega) h.g5, c (by omega) y6, c (by omega) h.g7, c (by omega) y8, c (by omega) h.g9⟩

theorem send_val (c : Nat) (pay r : Int) (v : Value) (hv : pays pay = v) (w : World) (hc : c < w.heap.size) (h0 : w.cell? ⟨c, 0, none⟩ = some (.int .i64 pay)) (h1 : w.cell? ⟨c, 1, none⟩ = some (.slice none 0 0)) (f1 : w.frozen? ⟨c, 1, none⟩ = false) :
    Calls Yba.prog 35 #[.pointer (some ⟨c, 0, none⟩), .int .i64 r] w fun e w' => e = .returned (.agg #[v, .nilFunc]) ∧ But (· = c) w w' ∧ Log1 w.heap.size w' ⟨c, 1, none⟩ r := by
  subst hv
  exact (send_any c pay r w hc h0 h1 f1).mono fun e w' ⟨h1, h2, _, h3⟩ => ⟨h1, h2, h3⟩

theorem hide {p : Prop} (h : p) : Hid p := h

theorem pays_or (pay : Int) : pays pay = .nilIface ∨ pays pay = .iface 3 (.int .i64 pay) := by
  unfold pays; split
  · exact Or.inl rfl
  · exact Or.inr rfl

section
variable {N : Nat} {id r : Int} {rA rB : Bool} {payA payB : Int} {fs : Value} {w wr : World}

/-- a store of an empty outbox into the first place -/
theorem mid_blank6 (hN : N + 4 ≤ w.heap.size) (h : Mid N id r rA rB payA payB fs w 0 wr) :
    Mid N id r rA rB payA payB fs w 0 ((wr.setCell ⟨N + 3, 6, none⟩ .nilIface).setCell ⟨N + 3, 7, none⟩ .nilFunc) := by
  obtain ⟨x6, y6, _⟩ := h.g6
  obtain ⟨x8, y8, z8⟩ := h.g8
  have cb : ∀ {b o : Nat} {v : Value}, b ≠ N + 3 → wr.cell? ⟨b, o, none⟩ = some v → ((wr.setCell ⟨N + 3, 6, none⟩ .nilIface).setCell ⟨N + 3, 7, none⟩ .nilFunc).cell? ⟨b, o, none⟩ = some v := by
    intro b o v hb hv; rw [cell_blk _ (by omega), cell_blk _ (by omega)]; exact hv
  have co : ∀ {o : Nat} {v : Value}, o ≠ 6 → o ≠ 7 → wr.cell? ⟨N + 3, o, none⟩ = some v → ((wr.setCell ⟨N + 3, 6, none⟩ .nilIface).setCell ⟨N + 3, 7, none⟩ .nilFunc).cell? ⟨N + 3, o, none⟩ = some v := by
    intro o v h6 h7 hv; rw [cell_off _ (by omega), cell_off _ (by omega)]; exact hv
  exact { bt := (h.bt.setCell (Or.inl ⟨by simp, by simp⟩) _).setCell (Or.inl ⟨by simp, by simp⟩) _, m := by simpa [World.setCell] using h.m, c0 := cb (by omega) h.c0,
          lc := (h.lc.set (ne_blk (by omega)) (by simp; omega) _).set (ne_blk (by omega)) (by simp; omega) _,
          a0 := fun e => cb (by omega) (h.a0 e), a1 := fun e => cb (by omega) (h.a1 e), fa := fun e => by simpa using h.fa e, b0 := fun e => cb (by omega) (h.b0 e), b1 := fun e => cb (by omega) (h.b1 e), fb := fun e => by simpa using h.fb e,
          la := fun e => absurd e (by omega), lb := fun e => absurd e (by omega), g0 := co (by omega) (by omega) h.g0, g3 := co (by omega) (by omega) h.g3, g4 := co (by omega) (by omega) h.g4, g5 := co (by omega) (by omega) h.g5,
          g6 := ⟨.nilIface, by rw [cell_off _ (by omega)]; exact cell_same _ y6, fun e => absurd e (by omega)⟩, g7 := cell_same _ (by rw [cell_off _ (by omega)]; exact h.g7), g8 := ⟨x8, co (by omega) (by omega) y8, z8⟩, g9 := co (by omega) (by omega) h.g9,
          fg := fun j => by simpa using h.fg j, q0 := cb (by omega) h.q0, q1 := cb (by omega) h.q1, qf := fun j => by simpa using h.qf j }

/-- a store of an empty outbox into the second place -/
theorem mid_blank8 (hN : N + 4 ≤ w.heap.size) (h : Mid N id r rA rB payA payB fs w 1 wr) :
    Mid N id r rA rB payA payB fs w 1 ((wr.setCell ⟨N + 3, 8, none⟩ .nilIface).setCell ⟨N + 3, 9, none⟩ .nilFunc) := by
  obtain ⟨x6, y6, z6⟩ := h.g6
  obtain ⟨x8, y8, _⟩ := h.g8
  have cb : ∀ {b o : Nat} {v : Value}, b ≠ N + 3 → wr.cell? ⟨b, o, none⟩ = some v → ((wr.setCell ⟨N + 3, 8, none⟩ .nilIface).setCell ⟨N + 3, 9, none⟩ .nilFunc).cell? ⟨b, o, none⟩ = some v := by
    intro b o v hb hv; rw [cell_blk _ (by omega), cell_blk _ (by omega)]; exact hv
  have co : ∀ {o : Nat} {v : Value}, o ≠ 8 → o ≠ 9 → wr.cell? ⟨N + 3, o, none⟩ = some v → ((wr.setCell ⟨N + 3, 8, none⟩ .nilIface).setCell ⟨N + 3, 9, none⟩ .nilFunc).cell? ⟨N + 3, o, none⟩ = some v := by
    intro o v h6 h7 hv; rw [cell_off _ (by omega), cell_off _ (by omega)]; exact hv
  exact { bt := (h.bt.setCell (Or.inl ⟨by simp, by simp⟩) _).setCell (Or.inl ⟨by simp, by simp⟩) _, m := by simpa [World.setCell] using h.m, c0 := cb (by omega) h.c0,
          lc := (h.lc.set (ne_blk (by omega)) (by simp; omega) _).set (ne_blk (by omega)) (by simp; omega) _,
          a0 := fun e => absurd e (by omega), a1 := fun e => absurd e (by omega), fa := fun e => absurd e (by omega), b0 := fun e => cb (by omega) (h.b0 e), b1 := fun e => cb (by omega) (h.b1 e), fb := fun e => by simpa using h.fb e,
          la := fun e => ((h.la e).set (ne_blk (by omega)) (by simp; omega) _).set (ne_blk (by omega)) (by simp; omega) _, lb := fun e => absurd e (by omega), g0 := co (by omega) (by omega) h.g0, g3 := co (by omega) (by omega) h.g3, g4 := co (by omega) (by omega) h.g4, g5 := co (by omega) (by omega) h.g5,
          g8 := ⟨.nilIface, by rw [cell_off _ (by omega)]; exact cell_same _ y8, fun e => absurd e (by omega)⟩, g9 := cell_same _ (by rw [cell_off _ (by omega)]; exact h.g9), g6 := ⟨x6, co (by omega) (by omega) y6, z6⟩, g7 := co (by omega) (by omega) h.g7,
          fg := fun j => by simpa using h.fg j, q0 := cb (by omega) h.q0, q1 := cb (by omega) h.q1, qf := fun j => by simpa using h.qf j }

/-- the first copy had returned -/
theorem mid_retA (h : Mid N id r true rB payA payB fs w 0 wr) (h6 : wr.cell? ⟨N + 3, 6, none⟩ = some .nilIface) : Mid N id r true rB payA payB fs w 1 wr :=
  { h with a0 := fun e => absurd e (by omega), a1 := fun e => absurd e (by omega), fa := fun e => absurd e (by omega), b0 := fun _ => h.b0 (by omega), b1 := fun _ => h.b1 (by omega), fb := fun _ => h.fb (by omega), la := fun _ => h.a1 rfl,
           lb := fun e => absurd e (by omega), g6 := ⟨_, h6, fun _ => rfl⟩, g8 := by obtain ⟨x, y, _⟩ := h.g8; exact ⟨x, y, fun e => absurd e (by omega)⟩ }

theorem mid_retB (h : Mid N id r rA true payA payB fs w 1 wr) (h8 : wr.cell? ⟨N + 3, 8, none⟩ = some .nilIface) : Mid N id r rA true payA payB fs w 2 wr :=
  { h with a0 := fun e => absurd e (by omega), a1 := fun e => absurd e (by omega), fa := fun e => absurd e (by omega), b0 := fun e => absurd e (by omega), b1 := fun e => absurd e (by omega), fb := fun e => absurd e (by omega), la := fun _ => h.la (by omega),
           lb := fun _ => h.b1 (by omega), g8 := ⟨_, h8, fun _ => rfl⟩, g6 := by obtain ⟨x, y, z⟩ := h.g6; exact ⟨x, y, fun _ => z (by omega)⟩ }

theorem facts6 {w3 : World} (hN : N + 4 ≤ w.heap.size) (h : Mid N id r rA rB payA payB fs w 0 wr) (hb : But (· = N) wr w3) :
    (∃ x, w3.cell? ⟨N + 3, 6, none⟩ = some x) ∧ w3.cell? ⟨N + 3, 7, none⟩ = some .nilFunc ∧ ∀ j, w3.frozen? ⟨N + 3, j, none⟩ = false := by
  obtain ⟨x, y, _⟩ := h.g6
  have hm := h.m
  exact ⟨⟨x, hb.cellSome y (by show N + 3 ≠ N; omega)⟩, hb.cellSome h.g7 (by show N + 3 ≠ N; omega), fun j => (hb.frozen (by show N + 3 < _; omega) (by show N + 3 ≠ N; omega)).trans (h.fg j)⟩

theorem facts8 {w3 : World} (hN : N + 4 ≤ w.heap.size) (h : Mid N id r rA rB payA payB fs w 1 wr) (hb : But (· = N + 1) wr w3) :
    (∃ x, w3.cell? ⟨N + 3, 8, none⟩ = some x) ∧ w3.cell? ⟨N + 3, 9, none⟩ = some .nilFunc ∧ ∀ j, w3.frozen? ⟨N + 3, j, none⟩ = false := by
  obtain ⟨x, y, _⟩ := h.g8
  have hm := h.m
  exact ⟨⟨x, hb.cellSome y (by show N + 3 ≠ N + 1; omega)⟩, hb.cellSome h.g9 (by show N + 3 ≠ N + 1; omega), fun j => (hb.frozen (by show N + 3 < _; omega) (by show N + 3 ≠ N + 1; omega)).trans (h.fg j)⟩

/-- the first copy has sent -/
theorem mid_sentA {w3 : World} (hN : N + 4 ≤ w.heap.size) (h : Mid N id r false rB payA payB fs w 0 wr) (hb : But (· = N) wr w3) (hl : Log1 wr.heap.size w3 ⟨N, 1, none⟩ r) :
    Mid N id r false rB payA payB fs w 1 ((w3.setCell ⟨N + 3, 6, none⟩ (pays payA)).setCell ⟨N + 3, 7, none⟩ .nilFunc) := by
  obtain ⟨x6, y6, _⟩ := h.g6
  obtain ⟨x8, y8, z8⟩ := h.g8
  have hm := h.m
  have hs := hb.size
  have k : ∀ {b o : Nat} {v : Value}, b ≠ N → wr.cell? ⟨b, o, none⟩ = some v → w3.cell? ⟨b, o, none⟩ = some v := fun h1 h2 => hb.cellSome h2 h1
  have kf : ∀ {b o : Nat}, b ≠ N → b < wr.heap.size → wr.frozen? ⟨b, o, none⟩ = false → w3.frozen? ⟨b, o, none⟩ = false := fun h1 h2 h3 => (hb.frozen h2 h1).trans h3
  have cb : ∀ {b o : Nat} {v : Value}, b ≠ N + 3 → w3.cell? ⟨b, o, none⟩ = some v → ((w3.setCell ⟨N + 3, 6, none⟩ (pays payA)).setCell ⟨N + 3, 7, none⟩ .nilFunc).cell? ⟨b, o, none⟩ = some v := by
    intro b o v hb hv; rw [cell_blk _ (by omega), cell_blk _ (by omega)]; exact hv
  have co : ∀ {o : Nat} {v : Value}, o ≠ 6 → o ≠ 7 → w3.cell? ⟨N + 3, o, none⟩ = some v → ((w3.setCell ⟨N + 3, 6, none⟩ (pays payA)).setCell ⟨N + 3, 7, none⟩ .nilFunc).cell? ⟨N + 3, o, none⟩ = some v := by
    intro o v h6 h7 hv; rw [cell_off _ (by omega), cell_off _ (by omega)]; exact hv
  have hbt : But (fun b => N ≤ b ∧ b < N + 4) w w3 := h.bt.trans (hb.mono (by rintro k _ rfl; exact ⟨by omega, by omega⟩))
  have hlc : Log1 (w.heap.size + 1) w3 ⟨N + 2, 1, none⟩ r := h.lc.but hb (by show N + 2 ≠ N; omega) (by intro k hk; show k ≠ N; omega)
  exact { bt := (hbt.setCell (Or.inl ⟨by simp, by simp⟩) _).setCell (Or.inl ⟨by simp, by simp⟩) _, m := by simp only [World.setCell, Array.size_modify]; omega, c0 := cb (by omega) (k (by omega) h.c0),
          lc := (hlc.set (ne_blk (by omega)) (by simp; omega) _).set (ne_blk (by omega)) (by simp; omega) _,
          a0 := fun e => absurd e (by omega), a1 := fun e => absurd e (by omega), fa := fun e => absurd e (by omega), b0 := fun _ => cb (by omega) (k (by omega) (h.b0 (by omega))), b1 := fun _ => cb (by omega) (k (by omega) (h.b1 (by omega))), fb := fun _ => by simpa using kf (by omega) (by omega) (h.fb (by omega)),
          la := fun _ => ((hl.mono (by omega)).set (ne_blk (by omega)) (by simp; omega) _).set (ne_blk (by omega)) (by simp; omega) _, lb := fun e => absurd e (by omega),
          g0 := co (by omega) (by omega) (k (by omega) h.g0), g3 := co (by omega) (by omega) (k (by omega) h.g3), g4 := co (by omega) (by omega) (k (by omega) h.g4), g5 := co (by omega) (by omega) (k (by omega) h.g5),
          g6 := ⟨pays payA, by rw [cell_off _ (by omega)]; exact cell_same _ (k (by omega) y6), fun _ => rfl⟩, g7 := cell_same _ (by rw [cell_off _ (by omega)]; exact k (by omega) h.g7), g8 := ⟨x8, co (by omega) (by omega) (k (by omega) y8), fun e => absurd e (by omega)⟩, g9 := co (by omega) (by omega) (k (by omega) h.g9),
          fg := fun j => by simpa using kf (by omega) (by omega) (h.fg j), q0 := cb (by omega) (k (by omega) h.q0), q1 := cb (by omega) (k (by omega) h.q1), qf := fun j => by simpa using kf (by omega) (by omega) (h.qf j) }

theorem mid_sentB {w3 : World} (hN : N + 4 ≤ w.heap.size) (h : Mid N id r rA false payA payB fs w 1 wr) (hb : But (· = N + 1) wr w3) (hl : Log1 wr.heap.size w3 ⟨N + 1, 1, none⟩ r) :
    Mid N id r rA false payA payB fs w 2 ((w3.setCell ⟨N + 3, 8, none⟩ (pays payB)).setCell ⟨N + 3, 9, none⟩ .nilFunc) := by
  obtain ⟨x6, y6, z6⟩ := h.g6
  obtain ⟨x8, y8, _⟩ := h.g8
  have hm := h.m
  have hs := hb.size
  have k : ∀ {b o : Nat} {v : Value}, b ≠ N + 1 → wr.cell? ⟨b, o, none⟩ = some v → w3.cell? ⟨b, o, none⟩ = some v := fun h1 h2 => hb.cellSome h2 h1
  have kf : ∀ {b o : Nat}, b ≠ N + 1 → b < wr.heap.size → wr.frozen? ⟨b, o, none⟩ = false → w3.frozen? ⟨b, o, none⟩ = false := fun h1 h2 h3 => (hb.frozen h2 h1).trans h3
  have cb : ∀ {b o : Nat} {v : Value}, b ≠ N + 3 → w3.cell? ⟨b, o, none⟩ = some v → ((w3.setCell ⟨N + 3, 8, none⟩ (pays payB)).setCell ⟨N + 3, 9, none⟩ .nilFunc).cell? ⟨b, o, none⟩ = some v := by
    intro b o v hb hv; rw [cell_blk _ (by omega), cell_blk _ (by omega)]; exact hv
  have co : ∀ {o : Nat} {v : Value}, o ≠ 8 → o ≠ 9 → w3.cell? ⟨N + 3, o, none⟩ = some v → ((w3.setCell ⟨N + 3, 8, none⟩ (pays payB)).setCell ⟨N + 3, 9, none⟩ .nilFunc).cell? ⟨N + 3, o, none⟩ = some v := by
    intro o v h6 h7 hv; rw [cell_off _ (by omega), cell_off _ (by omega)]; exact hv
  have hbt : But (fun b => N ≤ b ∧ b < N + 4) w w3 := h.bt.trans (hb.mono (by rintro k _ rfl; exact ⟨by omega, by omega⟩))
  have hlc : Log1 (w.heap.size + 1) w3 ⟨N + 2, 1, none⟩ r := h.lc.but hb (by show N + 2 ≠ N + 1; omega) (by intro k hk; show k ≠ N + 1; omega)
  have hla : LogIs (w.heap.size + 1) w3 N rA r := (h.la (by omega)).but hb (by show N ≠ N + 1; omega) (by intro k hk; show k ≠ N + 1; omega)
  exact { bt := (hbt.setCell (Or.inl ⟨by simp, by simp⟩) _).setCell (Or.inl ⟨by simp, by simp⟩) _, m := by simp only [World.setCell, Array.size_modify]; omega, c0 := cb (by omega) (k (by omega) h.c0),
          lc := (hlc.set (ne_blk (by omega)) (by simp; omega) _).set (ne_blk (by omega)) (by simp; omega) _,
          a0 := fun e => absurd e (by omega), a1 := fun e => absurd e (by omega), fa := fun e => absurd e (by omega), b0 := fun e => absurd e (by omega), b1 := fun e => absurd e (by omega), fb := fun e => absurd e (by omega),
          la := fun _ => (hla.set (ne_blk (by omega)) (by simp; omega) _).set (ne_blk (by omega)) (by simp; omega) _, lb := fun _ => ((hl.mono (by omega)).set (ne_blk (by omega)) (by simp; omega) _).set (ne_blk (by omega)) (by simp; omega) _,
          g0 := co (by omega) (by omega) (k (by omega) h.g0), g3 := co (by omega) (by omega) (k (by omega) h.g3), g4 := co (by omega) (by omega) (k (by omega) h.g4), g5 := co (by omega) (by omega) (k (by omega) h.g5),
          g8 := ⟨pays payB, by rw [cell_off _ (by omega)]; exact cell_same _ (k (by omega) y8), fun _ => rfl⟩, g9 := cell_same _ (by rw [cell_off _ (by omega)]; exact k (by omega) h.g9), g6 := ⟨x6, co (by omega) (by omega) (k (by omega) y6), fun _ => z6 (by omega)⟩, g7 := co (by omega) (by omega) (k (by omega) h.g7),
          fg := fun j => by simpa using kf (by omega) (by omega) (h.fg j), q0 := cb (by omega) (k (by omega) h.q0), q1 := cb (by omega) (k (by omega) h.q1), qf := fun j => by simpa using kf (by omega) (by omega) (h.qf j) }
end

set_option maxRecDepth 100000 in
set_option maxHeartbeats 1600000 in
theorem two_send (N : Nat) (id r : Int) (retA retB : Bool) (payA payB : Int) (fs : Value) (w : World) (hN : N + 4 ≤ w.heap.size)
    (a0 : w.cell? ⟨N, 0, none⟩ = some (.int .i64 payA)) (a1 : w.cell? ⟨N, 1, none⟩ = some (.slice none 0 0)) (fa : w.frozen? ⟨N, 1, none⟩ = false)
    (b0 : w.cell? ⟨N + 1, 0, none⟩ = some (.int .i64 payB)) (b1 : w.cell? ⟨N + 1, 1, none⟩ = some (.slice none 0 0)) (fb : w.frozen? ⟨N + 1, 1, none⟩ = false)
    (c0 : w.cell? ⟨N + 2, 0, none⟩ = some fs) (c1 : w.cell? ⟨N + 2, 1, none⟩ = some (.slice none 0 0)) (fc : w.frozen? ⟨N + 2, 1, none⟩ = false)
    (g0 : w.cell? ⟨N + 3, 0, none⟩ = some (.int .i64 id)) (g1 : w.cell? ⟨N + 3, 1, none⟩ = some (.iface 28 (.pointer (some ⟨N, 0, none⟩)))) (g2 : w.cell? ⟨N + 3, 2, none⟩ = some (.iface 28 (.pointer (some ⟨N + 1, 0, none⟩))))
    (g3 : w.cell? ⟨N + 3, 3, none⟩ = some (.iface 32 (.pointer (some ⟨N + 2, 0, none⟩)))) (g4 : w.cell? ⟨N + 3, 4, none⟩ = some (.bool retA)) (g5 : w.cell? ⟨N + 3, 5, none⟩ = some (.bool retB))
    (g6 : w.cell? ⟨N + 3, 6, none⟩ = some (.iface 9 (.string ⟨#[115, 116, 97, 108, 101]⟩))) (g7 : w.cell? ⟨N + 3, 7, none⟩ = some .nilFunc) (g8 : w.cell? ⟨N + 3, 8, none⟩ = some (.iface 9 (.string ⟨#[115, 116, 97, 108, 101]⟩))) (g9 : w.cell? ⟨N + 3, 9, none⟩ = some .nilFunc)
    (fg : ∀ j, w.frozen? ⟨N + 3, j, none⟩ = false) :
    Calls Yba.prog 8 #[.pointer (some ⟨N + 3, 0, none⟩), .int .i64 r] w fun e w' => e = .returned (.agg #[.nilIface, .func (.func 15) #[.pointer (some ⟨N + 3, 0, none⟩)] #[]]) ∧ But (fun k => N ≤ k ∧ k < N + 4) w w' ∧
      w'.cell? ⟨N + 2, 0, none⟩ = some fs ∧ Log1 (w.heap.size + 1) w' ⟨N + 2, 1, none⟩ r ∧ LogIs (w.heap.size + 1) w' N retA r ∧ LogIs (w.heap.size + 1) w' (N + 1) retB r ∧
      w'.cell? ⟨N + 3, 0, none⟩ = some (.int .i64 id) ∧ w'.cell? ⟨N + 3, 3, none⟩ = some (.iface 32 (.pointer (some ⟨N + 2, 0, none⟩))) ∧ w'.cell? ⟨N + 3, 4, none⟩ = some (.bool retA) ∧ w'.cell? ⟨N + 3, 5, none⟩ = some (.bool retB) ∧
      w'.cell? ⟨N + 3, 6, none⟩ = some (sentOf retA payA) ∧ w'.cell? ⟨N + 3, 7, none⟩ = some .nilFunc ∧ w'.cell? ⟨N + 3, 8, none⟩ = some (sentOf retB payB) ∧ w'.cell? ⟨N + 3, 9, none⟩ = some .nilFunc := by
  have n0 : N < w.heap.size := by omega
  have n1 : N + 1 < w.heap.size := by omega
  have n2 : N + 2 < w.heap.size := by omega
  have n3 : N + 3 < w.heap.size := by omega
  go_enter Yba.func8, Yba.ntmps8
  go_wp2_with (refine wpList_invoke1 rfl (.tmp 10) (.tmp 11) _ _ rfl 32 (.pointer (some ⟨N + 2, 0, none⟩)) rfl (.int .i64 r) rfl 37 (.pointer (some ⟨N + 2, 0, none⟩)) (by kernel_rfl) (next_any (N + 2) fs r _ ?hx ?h0 ?h1 ?h2) ?_)
  case hx => simp; omega
  case h0 => rw [World.cell?_alloc_past _ _ _ n2]; exact c0
  case h1 => rw [World.cell?_alloc_past _ _ _ n2]; exact c1
  case h2 => rw [World.frozen?_alloc_past _ _ _ n2]; exact fc
  rintro e w1 rfl hb k0 hl
  refine ⟨_, rfl, ?_⟩
  have H1 := facts1 n0 n1 n3 hb a0 a1 fa b0 b1 fb g0 g1 g2 g3 g4 g5 g6 g7 g8 g9 fg
  obtain ⟨m, a0', a1', fa', b0', b1', fb', g0', g1', g2', g3', g4', g5', g6', g7', g8', g9', fg', q0, q1, qf⟩ := H1
  have HM : Mid N id r retA retB payA payB fs w 0 w1 :=
    { bt := ((But.refl _ _).alloc _).trans (hb.mono (by intro k _ h; subst h; exact ⟨by omega, by omega⟩)), m := m, c0 := k0, lc := by simpa using hl, a0 := fun _ => a0', a1 := fun _ => a1', fa := fun _ => fa', b0 := fun _ => b0', b1 := fun _ => b1', fb := fun _ => fb',
      la := fun h => absurd h (by omega), lb := fun h => absurd h (by omega), g0 := g0', g3 := g3', g4 := g4', g5 := g5', g6 := ⟨_, g6', fun h => absurd h (by omega)⟩, g7 := g7', g8 := ⟨_, g8', fun h => absurd h (by omega)⟩, g9 := g9', fg := fg', q0 := q0, q1 := q1, qf := qf }
  clear hb hl k0 m a0' a1' fa' b0' b1' fb' g0' g3' g4' g5' g6' g7' g8' g9' q0 q1 qf n0 n1 n2 n3 a0 a1 fa b0 b1 fb c0 c1 fc g0 g1 g2 g3 g4 g5 g6 g7 g8 g9 fg
  go_wp2
  clear g1' g2' fg'
  have i0 : ∀ w, (Instr.index 38 (.agg #[.iface 28 (.pointer (some ⟨N, 0, none⟩)), .iface 28 (.pointer (some ⟨N + 1, 0, none⟩))]) (.int .i64 0)).run Yba.prog w = .ok (.iface 28 (.pointer (some ⟨N, 0, none⟩))) w := fun _ => by kernel_rfl
  have i1 : ∀ w, (Instr.index 38 (.agg #[.iface 28 (.pointer (some ⟨N, 0, none⟩)), .iface 28 (.pointer (some ⟨N + 1, 0, none⟩))]) (.int .i64 1)).run Yba.prog w = .ok (.iface 28 (.pointer (some ⟨N + 1, 0, none⟩))) w := fun _ => by kernel_rfl
  have ms : ∀ a w, (method 178 28 (.pointer (some a)) "Send").run Yba.prog w = .ok (35, .pointer (some a)) w := fun _ _ => by kernel_rfl
  go_loopw [17] (fun i wr => ∃ k : Nat, k ≤ 2 ∧ i = .int .i64 k ∧ Mid N id r retA retB payA payB fs w k wr) (fun i _ => 2 - (intOf i).toNat)
  case atStart => exact ⟨0, by omega, rfl, HM⟩
  case round =>
    obtain ⟨k, hk, rfl, hm⟩ := hrel
    clear HM
    obtain rfl | rfl | rfl : k = 0 ∨ k = 1 ∨ k = 2 := by omega
    · have hm' := mid_blank6 hN hm
      obtain ⟨x6, y6, _⟩ := hm.g6
      have y7 := hm.g7
      have y4 := hm.g4
      have yf := hm.fg
      clear hm
      cases retA with
      | true =>
        go_wp2
        go_roundw
        case rel => exact ⟨1, by omega, rfl, mid_retA hm' (by rw [cell_off _ (by omega)]; exact cell_same _ y6)⟩
        case measure => simp [intOf]
      | false =>
        go_wp2
        generalize (wr.setCell ⟨N + 3, 6, none⟩ .nilIface).setCell ⟨N + 3, 7, none⟩ .nilFunc = w2 at hm' ⊢
        clear y6 y7 yf y4
        have hz : N < w2.heap.size := by have := hm'.m; omega
        have HM : Hid (Mid N id r false retB payA payB fs w 0 w2) := hm'
        clear hm'
        obtain hp | hp := pays_or payA
        all_goals
          have HP := hide hp
          clear hp
          go_region_with (go_at_call 35; refine (send_val N payA r _ HP.out _ (by exact hz) (by exact HM.out.a0 rfl) (by exact HM.out.a1 rfl) (by exact HM.out.fa rfl)).mono ?_; rintro e w3 ⟨rfl, hb, hl⟩; obtain ⟨⟨x, y6⟩, y7, yf⟩ := facts6 hN HM.out hb.undrew)
          all_goals
            have R := mid_sentA hN HM.out hb.undrew hl
            rw [HP.out] at R
            have HR := hide R
            clear R
            go_wp2
            go_roundw
            case rel => exact ⟨1, by omega, rfl, HR.out⟩
            case measure => simp [intOf]
    · have hm' := mid_blank8 hN hm
      obtain ⟨x8, y8, _⟩ := hm.g8
      have y9 := hm.g9
      have y5 := hm.g5
      have yf := hm.fg
      clear hm
      cases retB with
      | true =>
        go_wp2
        go_roundw
        case rel => exact ⟨2, by omega, rfl, mid_retB hm' (by rw [cell_off _ (by omega)]; exact cell_same _ y8)⟩
        case measure => simp [intOf]
      | false =>
        go_wp2
        generalize (wr.setCell ⟨N + 3, 8, none⟩ .nilIface).setCell ⟨N + 3, 9, none⟩ .nilFunc = w2 at hm' ⊢
        clear y8 y9 yf y5
        have hz : N + 1 < w2.heap.size := by have := hm'.m; omega
        have HM : Hid (Mid N id r retA false payA payB fs w 1 w2) := hm'
        clear hm'
        obtain hp | hp := pays_or payB
        all_goals
          have HP := hide hp
          clear hp
          go_region_with (go_at_call 35; refine (send_val (N + 1) payB r _ HP.out _ (by exact hz) (by exact HM.out.b0 (by omega)) (by exact HM.out.b1 (by omega)) (by exact HM.out.fb (by omega))).mono ?_; rintro e w3 ⟨rfl, hb, hl⟩; obtain ⟨⟨x, y6⟩, y7, yf⟩ := facts8 hN HM.out hb.undrew)
          all_goals
            have R := mid_sentB hN HM.out hb.undrew hl
            rw [HP.out] at R
            have HR := hide R
            clear R
            go_wp2
            go_roundw
            case rel => exact ⟨2, by omega, rfl, HR.out⟩
            case measure => simp [intOf]
    · have y0 := hm.q0
      have y1 := hm.q1
      have yf := hm.qf
      go_wp2
      refine bodyPost_ret (v := .agg #[.nilIface, .func (.func 15) #[.pointer (some ⟨N + 3, 0, none⟩)] #[]]) (by simp [results, Yba.results8, go_sem, y0, y1]) rfl ⟨rfl, ?_⟩
      exact mid_end hN hm

end Go.Proofs.Ybulkcawk.PB
