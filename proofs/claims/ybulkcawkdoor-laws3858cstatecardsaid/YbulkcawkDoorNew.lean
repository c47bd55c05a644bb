import Derived.Test.YbulkcawkDoorSmallest
namespace Go.Proofs.YbulkcawkDoor.D
open Go.RowKit

theorem info45 : (Ybad.prog.info? 45).map (fun i => (i.zero, i.size, i.bytes)) = some (some (.pointer none), 1, 8) := by kernel_rfl
theorem info42 : (Ybad.prog.info? 42).map (fun i => (i.zero, i.size, i.bytes)) = some (some (.agg #[.int .i32 0, .int .i32 0]), 2, 8) := by kernel_rfl

theorem mk36 (n : Nat) (hn : n ≤ 300) (w : World) : (Instr.makeSlice 36 (.int .i64 (n : Int)) (.int .i64 (n : Int))).run Ybad.prog w = .ok (.slice (some ⟨w.heap.size, 0, none⟩) n n) (w.alloc (.cells (madeCells #[.int .i32 0, .int .i32 0] (n * 2)) 42)) := by
  obtain ⟨i, hi, hz0, hz1, hz2⟩ := info_parts info42
  have := run_make (P := Ybad.prog) w 36 42 i _ Ybad.underlying36 hi hz0 .i64 .i64 (n : Int) (n : Int) (by omega) (Int.le_refl _) (by rw [hz2]; omega) (by omega)
  rw [hz1] at this
  simp only [Int.toNat_natCast] at this
  exact this

theorem ta_nil (w : World) : (Instr.typeAssert .nilIface 20 45 true).run Ybad.prog w = .ok (.tuple #[.pointer none, .bool false]) w := by kernel_rfl
theorem ta_some (w : World) (v : Value) : (Instr.typeAssert (.iface 45 v) 20 45 true).run Ybad.prog w = .ok (.tuple #[v, .bool true]) w := by kernel_rfl

/-- the messages, below block B -/
structure Msgs (w : World) (g : T.Gr) (q : GP) (B : Nat) : Prop where
  mlt : ∀ i, i < g.n → g.here i = true → q.mb i < B
  mval : ∀ i, i < g.n → g.here i = true → w.cell? ⟨q.mb i, 0, none⟩ = some (.int .i32 (g.val i))
  mlis : ∀ i, i < g.n → g.here i = true → w.cell? ⟨q.mb i, 1, none⟩ = some (.slice (q.la i) (q.ll i) (q.lc i))
  mids : ∀ i, i < g.n → g.here i = true → Ids w B (q.la i) (q.ll i) (g.ids i) ∧ (q.la i = none → q.lc i = 0) ∧ q.ll i ≤ q.lc i
  mlb : ∀ i, i < g.n → g.here i = true → ∀ b off, q.la i = some ⟨b, off, none⟩ → b < B
  big : ∀ i, i < g.n → q.ll i ≤ 4096
  idw : ∀ i, i < g.n → ∀ x, x ∈ g.ids i → -2147483648 ≤ x ∧ x ≤ 2147483647

theorem Msgs.below {w w' : World} {g : T.Gr} {q : GP} {B : Nat} (h : Msgs w g q B) (hb : Below B w w') : Msgs w' g q B :=
  { mlt := h.mlt, mval := fun i hi hh => (hb.cell (h.mlt i hi hh)).trans (h.mval i hi hh), mlis := fun i hi hh => (hb.cell (h.mlt i hi hh)).trans (h.mlis i hi hh),
    mids := fun i hi hh => ⟨⟨(h.mids i hi hh).1.1, fun j hj => by obtain ⟨b, off, h1, h2, h3⟩ := (h.mids i hi hh).1.2 j hj; exact ⟨b, off, h1, h2, (hb.cell (by exact h2)).trans h3⟩⟩, (h.mids i hi hh).2⟩, mlb := h.mlb, big := h.big, idw := h.idw }

/-- the inbox -/
def Inbox (w : World) (a : Option Addr) (g : T.Gr) (q : GP) : Prop :=
  ∀ j, j < g.n → ∃ b off, a = some ⟨b, off, none⟩ ∧ w.cell? ⟨b, off + j, none⟩ = some (if g.here j then .iface 45 (.pointer (some ⟨q.mb j, 0, none⟩)) else .nilIface)

def rank0 (g : T.Gr) (v : Nat) : Int := if g.here v then 0 else T.MX

/-- the graph while it is made -/
structure NG (w : World) (n sb nb gb : Nat) (fs : Nat → Value) (fr : Nat → Int) (wr : World) : Prop where
  bel : Below w.heap.size w wr
  s : wr.rowIs sb 45 n fs
  r : wr.rowIs nb 42 (n * 2) (fun j => .int .i32 (fr j))
  o : wr.heap[gb]? = some (.cells #[.slice (some ⟨sb, 0, none⟩) n n, .slice (some ⟨nb, 0, none⟩) n n, .int .i32 0, .slice none 0 0, .slice none 0 0] 39 (0, 0))
  ls : w.heap.size ≤ sb
  ln : w.heap.size ≤ nb
  lg : w.heap.size ≤ gb
  sn : sb ≠ nb
  sg : sb ≠ gb
  ng : nb ≠ gb

section
variable {w wr : World} {n sb nb gb : Nat} {fs : Nat → Value} {fr : Nat → Int}

theorem NG.drew (h : NG w n sb nb gb fs fr wr) : NG w n sb nb gb fs fr wr.drew :=
  { bel := h.bel.drew, s := h.s, r := h.r, o := h.o, ls := h.ls, ln := h.ln, lg := h.lg, sn := h.sn, sg := h.sg, ng := h.ng }

theorem NG.setS (h : NG w n sb nb gb fs fr wr) (k : Nat) (v : Value) : NG w n sb nb gb (fun j => if j = k then v else fs j) fr (wr.setCell ⟨sb, k, none⟩ v) :=
  { bel := h.bel.setCell h.ls _, s := h.s.set k v, r := h.r.setOther (by exact h.sn.symm) _, o := by rw [Below.heap_setCell _ _ _ _ (by exact fun e => h.sg e.symm)]; exact h.o, ls := h.ls, ln := h.ln, lg := h.lg, sn := h.sn, sg := h.sg, ng := h.ng }

theorem NG.setR (h : NG w n sb nb gb fs fr wr) (k : Nat) (x : Int) : NG w n sb nb gb fs (fun j => if j = k then x else fr j) (wr.setCell ⟨nb, k, none⟩ (.int .i32 x)) :=
  { bel := h.bel.setCell h.ln _, s := h.s.setOther (by exact h.sn) _, r := (h.r.set k (.int .i32 x)).congr (fun j _ => by by_cases e : j = k <;> simp [e]), o := by rw [Below.heap_setCell _ _ _ _ (by exact fun e => h.ng e.symm)]; exact h.o, ls := h.ls, ln := h.ln, lg := h.lg, sn := h.sn, sg := h.sg, ng := h.ng }

theorem NG.congr (h : NG w n sb nb gb fs fr wr) {fs' : Nat → Value} {fr' : Nat → Int} (hs : ∀ j, j < n → fs j = fs' j) (hr : ∀ j, j < n * 2 → fr j = fr' j) : NG w n sb nb gb fs' fr' wr :=
  { h with s := h.s.congr hs, r := h.r.congr (fun j hj => by rw [hr j hj]) }

theorem NG.cells (h : NG w n sb nb gb fs fr wr) : wr.cell? ⟨gb, 0, none⟩ = some (.slice (some ⟨sb, 0, none⟩) n n) ∧ wr.cell? ⟨gb, 1, none⟩ = some (.slice (some ⟨nb, 0, none⟩) n n) ∧ wr.cell? ⟨gb, 2, none⟩ = some (.int .i32 0) ∧ wr.cell? ⟨gb, 3, none⟩ = some (.slice none 0 0) ∧ wr.cell? ⟨gb, 4, none⟩ = some (.slice none 0 0) ∧ ∀ j, wr.frozen? ⟨gb, j, none⟩ = false :=
  ⟨by rw [cell_of_row _ _ _ _ _ _ h.o]; rfl, by rw [cell_of_row _ _ _ _ _ _ h.o]; rfl, by rw [cell_of_row _ _ _ _ _ _ h.o]; rfl, by rw [cell_of_row _ _ _ _ _ _ h.o]; rfl, by rw [cell_of_row _ _ _ _ _ _ h.o]; rfl, fun j => frozen_of_row _ _ _ _ _ h.o⟩
end

def fsK (g : T.Gr) (q : GP) (k : Nat) (j : Nat) : Value := .pointer (if j < k ∧ g.here j = true then some ⟨q.mb j, 0, none⟩ else none)
def frK (g : T.Gr) (k : Nat) (j : Nat) : Int := if j / 2 < k then (if j % 2 = 0 then rank0 g (j / 2) else g.val (j / 2)) else 0

/-- the whole graph -/
theorem NG.all {w wr : World} {g : T.Gr} {q : GP} {sb nb gb : Nat} (h : NG w g.n sb nb gb (fsK g q g.n) (frK g g.n) wr) (hM : Msgs w g q w.heap.size) : GM wr ⟨gb, sb, nb, wr.heap.size, q.mb, q.la, q.ll, q.lc⟩ g (rank0 g) g.val 0 [] [] (.slice none 0 0) (.slice none 0 0) := by
  obtain ⟨c0, c1, c2, c3, c4, cz⟩ := h.cells
  have hM' := hM.below h.bel
  have hsz := h.bel.size
  have l1 := h.ls
  have l2 := h.ln
  have l3 := h.lg
  have hgl : gb < wr.heap.size := (Array.getElem?_eq_some_iff.1 h.o).1
  refine { st := { gB := hgl, nB := h.r.lt, sB := h.s.lt, gn := h.ng.symm, sg := h.sg, sn := h.sn, sz := Nat.le_refl _, sent := ?_, mlt := ?_, mval := hM'.mval, mlis := hM'.mlis, mids := ?_, mnot := ?_, big := hM'.big, idw := hM'.idw }, dy := { c0 := c0, c1 := c1, c2 := c2, c3 := c3, c4 := c4, fz := cz, rk := ?_, sm := ?_, nf := h.r.frozen }, pend := World.ownsRow_nil _ _ _ _, frames := World.ownsRow_nil _ _ _ _, fok := fun x hx => (by cases hx) }
  · intro i hi
    show wr.cell? ⟨sb, i, none⟩ = _
    rw [h.s.cell hi]
    by_cases e : g.here i = true
    · simp [fsK, hi, e]
    · simp [fsK, e]
  · intro i hi hh
    have := hM.mlt i hi hh
    exact ⟨by show q.mb i < wr.heap.size; omega, by show q.mb i ≠ gb; omega, by show q.mb i ≠ nb; omega⟩
  · intro i hi hh
    exact ⟨(hM'.mids i hi hh).1.up hsz, (hM'.mids i hi hh).2⟩
  · intro i hi hh b off e
    have := hM.mlb i hi hh b off e
    exact ⟨by show b ≠ gb; omega, by show b ≠ nb; omega⟩
  · intro v hv
    show wr.cell? ⟨nb, v * 2, none⟩ = _
    rw [h.r.cell (by omega : v * 2 < g.n * 2)]
    simp [frK, hv]
  · intro v hv
    show wr.cell? ⟨nb, v * 2 + 1, none⟩ = _
    rw [h.r.cell (by omega : v * 2 + 1 < g.n * 2)]
    have e1 : (v * 2 + 1) / 2 = v := by omega
    have e2 : ¬ (v * 2 + 1) % 2 = 0 := by omega
    simp only [frK, e1, if_pos hv, if_neg e2]

theorem made2 (w : World) (n : Nat) : (w.alloc (.cells (madeCells #[.int .i32 0, .int .i32 0] (n * 2)) 42)).rowIs w.heap.size 42 (n * 2) (fun _ => .int .i32 0) :=
  ⟨_, Deep.blk_alloc_new _ _, size_madeCells _ _, fun i hi => by
    have : i % 2 = 0 ∨ i % 2 = 1 := by omega
    rcases this with e | e <;> simp [madeCells, hi, e]⟩

theorem ng_start (w : World) (g : T.Gr) (q : GP) : NG w g.n w.heap.size (w.heap.size + 1) (w.heap.size + 1 + 1) (fsK g q 0) (frK g 0) (((w.alloc (.cells (madeCells #[.pointer none] g.n) 45)).alloc (.cells (madeCells #[.int .i32 0, .int .i32 0] (g.n * 2)) 42)).alloc
        (.cells #[.slice (some ⟨w.heap.size, 0, none⟩) g.n g.n, .slice (some ⟨w.heap.size + 1, 0, none⟩) g.n g.n, .int .i32 0, .slice none 0 0, .slice none 0 0] 39)).drew := by
  have e1 : (w.alloc (.cells (madeCells #[.pointer none] g.n) 45)).heap.size = w.heap.size + 1 := by simp
  have e2 : ((w.alloc (.cells (madeCells #[.pointer none] g.n) 45)).alloc (.cells (madeCells #[.int .i32 0, .int .i32 0] (g.n * 2)) 42)).heap.size = w.heap.size + 1 + 1 := by simp
  have h1 := (World.rowIs_made w (.pointer none) g.n 45)
  have h2 := made2 (w.alloc (.cells (madeCells #[.pointer none] g.n) 45)) g.n
  rw [e1] at h2
  refine NG.drew { bel := (((Below.refl _ _).alloc (Nat.le_refl _) _).alloc (by simp) _).alloc (by simp; omega) _, s := ((h1.alloc _).alloc _).congr (fun j _ => by simp [fsK]), r := (h2.alloc _).congr (fun j _ => by simp [frK]), o := ?_, ls := Nat.le_refl _, ln := by omega, lg := by omega, sn := by omega, sg := by omega, ng := by omega }
  rw [← e2]; exact Deep.blk_alloc_new _ _

theorem ng_start' (w : World) (g : T.Gr) (q : GP) : NG w g.n (w.heap.size + 1) w.heap.size (w.heap.size + 1 + 1) (fsK g q 0) (frK g 0) (((w.alloc (.cells (madeCells #[.int .i32 0, .int .i32 0] (g.n * 2)) 42)).alloc (.cells (madeCells #[.pointer none] g.n) 45)).alloc
        (.cells #[.slice (some ⟨w.heap.size + 1, 0, none⟩) g.n g.n, .slice (some ⟨w.heap.size, 0, none⟩) g.n g.n, .int .i32 0, .slice none 0 0, .slice none 0 0] 39)).drew := by
  have e1 : (w.alloc (.cells (madeCells #[.int .i32 0, .int .i32 0] (g.n * 2)) 42)).heap.size = w.heap.size + 1 := by simp
  have e2 : ((w.alloc (.cells (madeCells #[.int .i32 0, .int .i32 0] (g.n * 2)) 42)).alloc (.cells (madeCells #[.pointer none] g.n) 45)).heap.size = w.heap.size + 1 + 1 := by simp
  have h1 := made2 w g.n
  have h2 := World.rowIs_made (w.alloc (.cells (madeCells #[.int .i32 0, .int .i32 0] (g.n * 2)) 42)) (.pointer none) g.n 45
  rw [e1] at h2
  refine NG.drew { bel := (((Below.refl _ _).alloc (Nat.le_refl _) _).alloc (by simp) _).alloc (by simp; omega) _, s := (h2.alloc _).congr (fun j _ => by simp [fsK]), r := ((h1.alloc _).alloc _).congr (fun j _ => by simp [frK]), o := ?_, ls := by omega, ln := Nat.le_refl _, lg := by omega, sn := by omega, sg := by omega, ng := by omega }
  rw [← e2]; exact Deep.blk_alloc_new _ _

theorem ng_here {w wr : World} {g : T.Gr} {q : GP} {sb nb gb k : Nat} (hh : g.here k = true)
    (h : NG w g.n sb nb gb (fun j => if j = k then .pointer (some ⟨q.mb k, 0, none⟩) else fsK g q k j) (fun j => if j = k * 2 + 1 then g.val k else if j = k * 2 then 0 else if j = k * 2 + 1 then 2147483647 else if j = k * 2 then 2147483647 else frK g k j) wr) : NG w g.n sb nb gb (fsK g q (k + 1)) (frK g (k + 1)) wr := by
  refine h.congr (fun j _ => ?_) (fun j _ => ?_)
  · by_cases e : j = k
    · subst e; simp [fsK, hh]
    · by_cases e2 : j < k
      · simp [fsK, e, e2, show j < k + 1 by omega]
      · simp [fsK, e, e2, show ¬ j < k + 1 by omega]
  · by_cases e : j = k * 2 + 1
    · have a1 : j / 2 = k := by omega
      have a2 : ¬ j % 2 = 0 := by omega
      simp only [if_pos e, frK, a1, if_neg a2, if_pos (show k < k + 1 by omega)]
    · by_cases e' : j = k * 2
      · have a1 : j / 2 = k := by omega
        have a2 : j % 2 = 0 := by omega
        simp only [if_neg e, if_pos e', frK, a1, if_pos a2, if_pos (show k < k + 1 by omega), rank0, hh, if_true]
      · simp only [if_neg e, if_neg e', frK]
        by_cases e2 : j / 2 < k
        · rw [if_pos e2, if_pos (show j / 2 < k + 1 by omega)]
        · rw [if_neg e2, if_neg (show ¬ j / 2 < k + 1 by omega)]

theorem ng_not {w wr : World} {g : T.Gr} {q : GP} {sb nb gb k : Nat} (hh : g.here k = false) (hv : g.val k = T.MX)
    (h : NG w g.n sb nb gb (fun j => if j = k then .pointer none else fsK g q k j) (fun j => if j = k * 2 + 1 then 2147483647 else if j = k * 2 then 2147483647 else frK g k j) wr) : NG w g.n sb nb gb (fsK g q (k + 1)) (frK g (k + 1)) wr := by
  refine h.congr (fun j _ => ?_) (fun j _ => ?_)
  · by_cases e : j = k
    · subst e; simp [fsK, hh]
    · by_cases e2 : j < k
      · simp [fsK, e, e2, show j < k + 1 by omega]
      · simp [fsK, e, e2, show ¬ j < k + 1 by omega]
  · by_cases e : j = k * 2 + 1
    · have a1 : j / 2 = k := by omega
      have a2 : ¬ j % 2 = 0 := by omega
      simp only [if_pos e, frK, a1, if_neg a2, if_pos (show k < k + 1 by omega), hv]; rfl
    · by_cases e' : j = k * 2
      · have a1 : j / 2 = k := by omega
        have a2 : j % 2 = 0 := by omega
        simp only [if_neg e, if_pos e', frK, a1, if_pos a2, if_pos (show k < k + 1 by omega), rank0, hh]; rfl
      · simp only [if_neg e, if_neg e', frK]
        by_cases e2 : j / 2 < k
        · rw [if_pos e2, if_pos (show j / 2 < k + 1 by omega)]
        · rw [if_neg e2, if_neg (show ¬ j / 2 < k + 1 by omega)]

set_option maxRecDepth 100000 in
set_option maxHeartbeats 1600000 in
theorem new_any (a : Option Addr) (c : Nat) (g : T.Gr) (q : GP) (w : World) (hn : g.n ≤ 300) (hM : Msgs w g q w.heap.size) (hI : Inbox w a g q) (hg0 : w.cell? ⟨0, 0, none⟩ = some (.int .i32 2147483647)) (hg1 : w.cell? ⟨0, 1, none⟩ = some (.int .i32 2147483647)) (hval : ∀ i, i < g.n → g.here i = false → g.val i = T.MX) :
    Calls Ybad.prog 11 #[.slice a g.n c] w fun e w' => ∃ p : GP, p.mb = q.mb ∧ p.la = q.la ∧ p.ll = q.ll ∧ p.lc = q.lc ∧ w.heap.size ≤ p.gb ∧ w.heap.size ≤ p.nb ∧ e = .returned (.pointer (some ⟨p.gb, 0, none⟩)) ∧ Below w.heap.size w w' ∧ GM w' p g (rank0 g) g.val 0 [] [] (.slice none 0 0) (.slice none 0 0) := by
  have hmk1 := run_make_row' (P := Ybad.prog) 35 45 (.pointer none) 8 Ybad.underlying35 info45 rfl .i64 .i64 g.n (by omega) (by omega)
  have hmk2 := mk36 g.n hn
  have ta1 := ta_nil
  have ta2 := ta_some
  have HM := hide hM
  have HI := hide hI
  have HV := hide hval
  clear hM hI hval
  have H1 := hide (ng_start w g q)
  have H2 := hide (ng_start' w g q)
  go_enter Ybad.func11, Ybad.ntmps11
  go_wp2
  go_region
  · have HN := H1
    clear hmk1 hmk2 H1 H2
    generalize (((w.alloc (.cells (madeCells #[.pointer none] g.n) 45)).alloc (.cells (madeCells #[.int .i32 0, .int .i32 0] (g.n * 2)) 42)).alloc
        (.cells #[.slice (some ⟨w.heap.size, 0, none⟩) g.n g.n, .slice (some ⟨w.heap.size + 1, 0, none⟩) g.n g.n, .int .i32 0, .slice none 0 0, .slice none 0 0] 39)).drew = w0 at HN ⊢
    generalize w.heap.size + 1 + 1 = gb at HN ⊢
    generalize w.heap.size + 1 = nb at HN ⊢
    obtain ⟨sb, hsb⟩ : ∃ sb, sb = w.heap.size := ⟨_, rfl⟩
    simp only [← hsb] at HN ⊢
    clear hsb
    go_wp2
    go_loopw [18] (fun i wr => ∃ k : Nat, k ≤ g.n ∧ i = .int .i64 k ∧ Hid (NG w g.n sb nb gb (fsK g q k) (frK g k) wr)) (fun i _ => g.n - (intOf i).toNat)
    case atStart => exact ⟨0, Nat.zero_le _, rfl, HN⟩
    case round =>
      obtain ⟨k, hk, rfl, HK⟩ := hrel
      clear HN
      by_cases hkn : k < g.n
      · obtain ⟨b, off, rfl, hc⟩ := HI.out k hkn
        have hc1 := (HK.out.bel.cell (World.block_lt_of_cell? _ _ hc)).trans hc
        clear hc
        obtain ⟨x0, _, _, _, _, _⟩ := HK.out.cells
        have s0 := HK.out.s.cell hkn
        have sf := HK.out.s.frozen
        simp only [fsK] at s0
        cases hh : g.here k with
        | false =>
          rw [hh] at hc1
          simp only [Bool.false_eq_true, if_false] at hc1
          go_wp2
          have HK1 := hide (HK.out.setS k (.pointer none))
          clear HK x0 s0 sf hc1
          generalize wr.setCell ⟨sb, k, none⟩ (.pointer none) = w1 at HK1 ⊢
          obtain ⟨_, x1, _, _, _, _⟩ := HK1.out.cells
          have r0 := HK1.out.r.cell (i := k * 2) (by omega)
          have r1 := HK1.out.r.cell (i := k * 2 + 1) (by omega)
          have rf := HK1.out.r.frozen
          have g0 := (HK1.out.bel.cell (World.block_lt_of_cell? _ _ hg0)).trans hg0
          have g1 := (HK1.out.bel.cell (World.block_lt_of_cell? _ _ hg1)).trans hg1
          go_region
          have HK2 := hide (ng_not hh (HV.out k hkn hh) ((HK1.out.setR (k * 2) 2147483647).setR (k * 2 + 1) 2147483647).drew)
          clear HK1 x1 r0 r1 rf g0 g1
          generalize ((w1.setCell ⟨nb, k * 2, none⟩ (.int .i32 2147483647)).setCell ⟨nb, k * 2 + 1, none⟩ (.int .i32 2147483647)).drew = w2 at HK2 ⊢
          go_wp2
          go_roundw
          case rel => exact ⟨k + 1, by omega, by go_num, HK2⟩
          case measure => simp [intOf]; omega
        | true =>
          rw [hh] at hc1
          simp only [if_true] at hc1
          go_wp2
          have HK1 := hide (HK.out.setS k (.pointer (some ⟨q.mb k, 0, none⟩)))
          clear HK x0 s0 sf hc1
          generalize wr.setCell ⟨sb, k, none⟩ (.pointer (some ⟨q.mb k, 0, none⟩)) = w1 at HK1 ⊢
          obtain ⟨_, x1, _, _, _, _⟩ := HK1.out.cells
          have r0 := HK1.out.r.cell (i := k * 2) (by omega)
          have r1 := HK1.out.r.cell (i := k * 2 + 1) (by omega)
          have rf := HK1.out.r.frozen
          have g0 := (HK1.out.bel.cell (World.block_lt_of_cell? _ _ hg0)).trans hg0
          have g1 := (HK1.out.bel.cell (World.block_lt_of_cell? _ _ hg1)).trans hg1
          go_region
          have HK2 := hide ((HK1.out.setR (k * 2) 2147483647).setR (k * 2 + 1) 2147483647).drew
          clear HK1 x1 r0 r1 rf g0 g1
          generalize ((w1.setCell ⟨nb, k * 2, none⟩ (.int .i32 2147483647)).setCell ⟨nb, k * 2 + 1, none⟩ (.int .i32 2147483647)).drew = w2 at HK2 ⊢
          have hv0 := HM.out.mval k hkn hh
          have hv1 := (HK2.out.bel.cell (World.block_lt_of_cell? _ _ hv0)).trans hv0
          obtain ⟨_, x1, _, _, _, _⟩ := HK2.out.cells
          have r0 := HK2.out.r.cell (i := k * 2) (by omega)
          have r1 := HK2.out.r.cell (i := k * 2 + 1) (by omega)
          have rf := HK2.out.r.frozen
          clear hv0
          go_wp2
          go_region
          have HK3 := hide (ng_here hh ((HK2.out.setR (k * 2) 0).setR (k * 2 + 1) (g.val k)).drew)
          clear HK2 x1 r0 r1 rf hv1
          generalize ((w2.setCell ⟨nb, k * 2, none⟩ (.int .i32 0)).setCell ⟨nb, k * 2 + 1, none⟩ (.int .i32 (g.val k))).drew = w3 at HK3 ⊢
          go_wp2
          go_roundw
          case rel => exact ⟨k + 1, by omega, by go_num, HK3⟩
          case measure => simp [intOf]; omega
      · go_wp2
        go_ret
        obtain rfl : k = g.n := by omega
        exact ⟨⟨gb, sb, nb, wr.heap.size, q.mb, q.la, q.ll, q.lc⟩, rfl, rfl, rfl, rfl, HK.out.lg, HK.out.ln, rfl, HK.out.bel, HK.out.all HM.out⟩
  · have HN := H2
    clear hmk1 hmk2 H1 H2
    generalize (((w.alloc (.cells (madeCells #[.int .i32 0, .int .i32 0] (g.n * 2)) 42)).alloc (.cells (madeCells #[.pointer none] g.n) 45)).alloc
        (.cells #[.slice (some ⟨w.heap.size + 1, 0, none⟩) g.n g.n, .slice (some ⟨w.heap.size, 0, none⟩) g.n g.n, .int .i32 0, .slice none 0 0, .slice none 0 0] 39)).drew = w0 at HN ⊢
    generalize w.heap.size + 1 + 1 = gb at HN ⊢
    generalize w.heap.size + 1 = sb at HN ⊢
    obtain ⟨nb, hsb⟩ : ∃ nb, nb = w.heap.size := ⟨_, rfl⟩
    simp only [← hsb] at HN ⊢
    clear hsb
    go_wp2
    go_loopw [18] (fun i wr => ∃ k : Nat, k ≤ g.n ∧ i = .int .i64 k ∧ Hid (NG w g.n sb nb gb (fsK g q k) (frK g k) wr)) (fun i _ => g.n - (intOf i).toNat)
    case atStart => exact ⟨0, Nat.zero_le _, rfl, HN⟩
    case round =>
      obtain ⟨k, hk, rfl, HK⟩ := hrel
      clear HN
      by_cases hkn : k < g.n
      · obtain ⟨b, off, rfl, hc⟩ := HI.out k hkn
        have hc1 := (HK.out.bel.cell (World.block_lt_of_cell? _ _ hc)).trans hc
        clear hc
        obtain ⟨x0, _, _, _, _, _⟩ := HK.out.cells
        have s0 := HK.out.s.cell hkn
        have sf := HK.out.s.frozen
        simp only [fsK] at s0
        cases hh : g.here k with
        | false =>
          rw [hh] at hc1
          simp only [Bool.false_eq_true, if_false] at hc1
          go_wp2
          have HK1 := hide (HK.out.setS k (.pointer none))
          clear HK x0 s0 sf hc1
          generalize wr.setCell ⟨sb, k, none⟩ (.pointer none) = w1 at HK1 ⊢
          obtain ⟨_, x1, _, _, _, _⟩ := HK1.out.cells
          have r0 := HK1.out.r.cell (i := k * 2) (by omega)
          have r1 := HK1.out.r.cell (i := k * 2 + 1) (by omega)
          have rf := HK1.out.r.frozen
          have g0 := (HK1.out.bel.cell (World.block_lt_of_cell? _ _ hg0)).trans hg0
          have g1 := (HK1.out.bel.cell (World.block_lt_of_cell? _ _ hg1)).trans hg1
          go_region
          have HK2 := hide (ng_not hh (HV.out k hkn hh) ((HK1.out.setR (k * 2) 2147483647).setR (k * 2 + 1) 2147483647).drew)
          clear HK1 x1 r0 r1 rf g0 g1
          generalize ((w1.setCell ⟨nb, k * 2, none⟩ (.int .i32 2147483647)).setCell ⟨nb, k * 2 + 1, none⟩ (.int .i32 2147483647)).drew = w2 at HK2 ⊢
          go_wp2
          go_roundw
          case rel => exact ⟨k + 1, by omega, by go_num, HK2⟩
          case measure => simp [intOf]; omega
        | true =>
          rw [hh] at hc1
          simp only [if_true] at hc1
          go_wp2
          have HK1 := hide (HK.out.setS k (.pointer (some ⟨q.mb k, 0, none⟩)))
          clear HK x0 s0 sf hc1
          generalize wr.setCell ⟨sb, k, none⟩ (.pointer (some ⟨q.mb k, 0, none⟩)) = w1 at HK1 ⊢
          obtain ⟨_, x1, _, _, _, _⟩ := HK1.out.cells
          have r0 := HK1.out.r.cell (i := k * 2) (by omega)
          have r1 := HK1.out.r.cell (i := k * 2 + 1) (by omega)
          have rf := HK1.out.r.frozen
          have g0 := (HK1.out.bel.cell (World.block_lt_of_cell? _ _ hg0)).trans hg0
          have g1 := (HK1.out.bel.cell (World.block_lt_of_cell? _ _ hg1)).trans hg1
          go_region
          have HK2 := hide ((HK1.out.setR (k * 2) 2147483647).setR (k * 2 + 1) 2147483647).drew
          clear HK1 x1 r0 r1 rf g0 g1
          generalize ((w1.setCell ⟨nb, k * 2, none⟩ (.int .i32 2147483647)).setCell ⟨nb, k * 2 + 1, none⟩ (.int .i32 2147483647)).drew = w2 at HK2 ⊢
          have hv0 := HM.out.mval k hkn hh
          have hv1 := (HK2.out.bel.cell (World.block_lt_of_cell? _ _ hv0)).trans hv0
          obtain ⟨_, x1, _, _, _, _⟩ := HK2.out.cells
          have r0 := HK2.out.r.cell (i := k * 2) (by omega)
          have r1 := HK2.out.r.cell (i := k * 2 + 1) (by omega)
          have rf := HK2.out.r.frozen
          clear hv0
          go_wp2
          go_region
          have HK3 := hide (ng_here hh ((HK2.out.setR (k * 2) 0).setR (k * 2 + 1) (g.val k)).drew)
          clear HK2 x1 r0 r1 rf hv1
          generalize ((w2.setCell ⟨nb, k * 2, none⟩ (.int .i32 0)).setCell ⟨nb, k * 2 + 1, none⟩ (.int .i32 (g.val k))).drew = w3 at HK3 ⊢
          go_wp2
          go_roundw
          case rel => exact ⟨k + 1, by omega, by go_num, HK3⟩
          case measure => simp [intOf]; omega
      · go_wp2
        go_ret
        obtain rfl : k = g.n := by omega
        exact ⟨⟨gb, sb, nb, wr.heap.size, q.mb, q.la, q.ll, q.lc⟩, rfl, rfl, rfl, rfl, HK.out.lg, HK.out.ln, rfl, HK.out.bel, HK.out.all HM.out⟩
end Go.Proofs.YbulkcawkDoor.D
