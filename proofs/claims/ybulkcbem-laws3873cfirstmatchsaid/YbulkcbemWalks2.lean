import Derived.Test.YbulkcbemWalks1
import Derived.Laws.CopyOwn
import Derived.WalkSpells
import Derived.Lib.SliceRun
namespace Go.Proofs.Ybulkcbem.PE
open Go.RowKit

theorem info65 : (Yba.prog.info? 65).map (fun i => (i.zero, i.size, i.bytes)) = some (some (.agg #[.int .i64 0, .int .i64 0, .slice none 0 0, .int .i64 0]), 4, 48) := by kernel_rfl
theorem info3 : (Yba.prog.info? 3).map (fun i => (i.zero, i.size, i.bytes)) = some (some (.int .i64 0), 1, 8) := by kernel_rfl
theorem size3 : (Yba.prog.info? 3).map (·.size) = some 1 := by kernel_rfl

/-- the starts of one sequence that came in -/
def SI (w : World) (a : Option Addr) (n c : Nat) (zs : List Int) : Prop :=
  (a = none → n = 0 ∧ c = 0) ∧ n ≤ maxLen ∧ n * 8 ≤ 140737488355328 ∧ zs.length = n ∧ ∀ i, i < n → ∃ ad, a = some ad ∧ w.cell? (ad.add i) = some (.int .i64 (zs.getD i 0))

/-- the row that is being filled: 'k' sequences are laid -/
structure Fill (w : World) (g n : Nat) (q : Seqs) (k : Nat) (wr : World) : Prop where
  bel : Below w.heap.size w wr
  lt : g < wr.heap.size
  old : w.heap.size ≤ g
  some : ∀ j, j < n * 4 → ∃ v, wr.cell? ⟨g, j, none⟩ = some v
  fz : ∀ j, wr.frozen? ⟨g, j, none⟩ = false
  row : ∃ sa sl sc, QRow wr g 0 k ⟨q.len, q.least, sa, sl, sc, q.fin⟩

theorem Fill.below {w : World} {g n : Nat} {q : Seqs} {k : Nat} {wr w' : World} (h : Fill w g n q k wr) (hb : Below wr.heap.size wr w') : Fill w g n q k w' :=
  { bel := h.bel.trans (hb.mono h.bel.size), lt := Nat.lt_of_lt_of_le h.lt hb.size, old := h.old,
    some := fun j hj => by obtain ⟨v, hv⟩ := h.some j hj; exact ⟨v, (hb.cell (by exact h.lt)).trans hv⟩, fz := fun j => (hb.frozen (by exact h.lt)).trans (h.fz j),
    row := by obtain ⟨sa, sl, sc, hr⟩ := h.row; exact ⟨sa, sl, sc, hr.below hb⟩ }

theorem Fill.drew {w : World} {g n : Nat} {q : Seqs} {k : Nat} {wr : World} (h : Fill w g n q k wr) : Fill w g n q k wr.drew := h.below (Below.refl _ _).drew

theorem fill_start {w w1 : World} {n : Nat} {q : Seqs} {zs : List Value} (hown : w1.ownsRow w.heap.size 65 4 (.slice (some ⟨w.heap.size, 0, none⟩) n n) n zs) (hg : w.grownBy w1 none) : Fill w w.heap.size n q 0 w1 :=
  { bel := (Below.refl _ _).grown hg (Nat.le_refl _) (fun k h => by cases h), lt := (hown.lt _ rfl).2, old := Nat.le_refl _,
    some := fun j hj => by
      have h1 := hown.cellAt j hj
      have h2 : j < zs.length := by rw [hown.1]; exact hj
      exact ⟨zs[j], by rw [h1, List.getElem?_eq_getElem h2]⟩,
    fz := fun j => hown.frozenAt j, row := ⟨q.sa, q.sl, q.sc, fun j hj => absurd hj (by omega)⟩ }

theorem cell_same {w : World} {a : Addr} {u : Value} (v : Value) (h : w.cell? a = some u) : (w.setCell a v).cell? a = some v := World.cell?_setCell_same _ _ _ h

theorem cell_off {w : World} {b o o' : Nat} (v : Value) (h : o ≠ o') : (w.setCell ⟨b, o, none⟩ v).cell? ⟨b, o', none⟩ = w.cell? ⟨b, o', none⟩ := World.cell?_setCell_other _ _ _ _ (by intro e; cases e; exact h rfl)

theorem fill_step {w : World} {g n : Nat} {q : Seqs} {k : Nat} {wr : World} {a : Option Addr} {l c : Nat} (h : Fill w g n q k wr) (hk : k < n) :
    Fill w g n q (k + 1) ((((wr.setCell ⟨g, k * 4, none⟩ (.int .i64 (q.len k))).setCell ⟨g, k * 4 + 1, none⟩ (.int .i64 (q.least k))).setCell ⟨g, k * 4 + 2, none⟩ (.slice a l c)).setCell ⟨g, k * 4 + 3, none⟩ (.int .i64 (q.fin k))) := by
  obtain ⟨v0, h0⟩ := h.some (k * 4) (by omega)
  obtain ⟨v1, h1⟩ := h.some (k * 4 + 1) (by omega)
  obtain ⟨v2, h2⟩ := h.some (k * 4 + 2) (by omega)
  obtain ⟨v3, h3⟩ := h.some (k * 4 + 3) (by omega)
  have e0 : ((((wr.setCell ⟨g, k * 4, none⟩ (.int .i64 (q.len k))).setCell ⟨g, k * 4 + 1, none⟩ (.int .i64 (q.least k))).setCell ⟨g, k * 4 + 2, none⟩ (.slice a l c)).setCell ⟨g, k * 4 + 3, none⟩ (.int .i64 (q.fin k))).cell? ⟨g, k * 4, none⟩ = some (.int .i64 (q.len k)) := by
    rw [cell_off _ (by omega), cell_off _ (by omega), cell_off _ (by omega)]; exact cell_same _ h0
  have e1 : ((((wr.setCell ⟨g, k * 4, none⟩ (.int .i64 (q.len k))).setCell ⟨g, k * 4 + 1, none⟩ (.int .i64 (q.least k))).setCell ⟨g, k * 4 + 2, none⟩ (.slice a l c)).setCell ⟨g, k * 4 + 3, none⟩ (.int .i64 (q.fin k))).cell? ⟨g, k * 4 + 1, none⟩ = some (.int .i64 (q.least k)) := by
    rw [cell_off _ (by omega), cell_off _ (by omega)]; exact cell_same _ (by rw [cell_off _ (by omega)]; exact h1)
  have e2 : ((((wr.setCell ⟨g, k * 4, none⟩ (.int .i64 (q.len k))).setCell ⟨g, k * 4 + 1, none⟩ (.int .i64 (q.least k))).setCell ⟨g, k * 4 + 2, none⟩ (.slice a l c)).setCell ⟨g, k * 4 + 3, none⟩ (.int .i64 (q.fin k))).cell? ⟨g, k * 4 + 2, none⟩ = some (.slice a l c) := by
    rw [cell_off _ (by omega)]; exact cell_same _ (by rw [cell_off _ (by omega), cell_off _ (by omega)]; exact h2)
  have e3 : ((((wr.setCell ⟨g, k * 4, none⟩ (.int .i64 (q.len k))).setCell ⟨g, k * 4 + 1, none⟩ (.int .i64 (q.least k))).setCell ⟨g, k * 4 + 2, none⟩ (.slice a l c)).setCell ⟨g, k * 4 + 3, none⟩ (.int .i64 (q.fin k))).cell? ⟨g, k * 4 + 3, none⟩ = some (.int .i64 (q.fin k)) :=
    cell_same _ (by rw [cell_off _ (by omega), cell_off _ (by omega), cell_off _ (by omega)]; exact h3)
  have other : ∀ j, j ≠ k * 4 → j ≠ k * 4 + 1 → j ≠ k * 4 + 2 → j ≠ k * 4 + 3 → ((((wr.setCell ⟨g, k * 4, none⟩ (.int .i64 (q.len k))).setCell ⟨g, k * 4 + 1, none⟩ (.int .i64 (q.least k))).setCell ⟨g, k * 4 + 2, none⟩ (.slice a l c)).setCell ⟨g, k * 4 + 3, none⟩ (.int .i64 (q.fin k))).cell? ⟨g, j, none⟩ = wr.cell? ⟨g, j, none⟩ := by
    intro j a0 a1 a2 a3
    rw [cell_off _ (Ne.symm a3), cell_off _ (Ne.symm a2), cell_off _ (Ne.symm a1), cell_off _ (Ne.symm a0)]
  obtain ⟨sa, sl, sc, hr⟩ := h.row
  exact { bel := (((h.bel.setCell h.old _).setCell h.old _).setCell h.old _).setCell h.old _, lt := by simpa [World.setCell] using h.lt, old := h.old,
          some := fun j hj => by
            by_cases a0 : j = k * 4
            · subst a0; exact ⟨_, e0⟩
            · by_cases a1 : j = k * 4 + 1
              · subst a1; exact ⟨_, e1⟩
              · by_cases a2 : j = k * 4 + 2
                · subst a2; exact ⟨_, e2⟩
                · by_cases a3 : j = k * 4 + 3
                  · subst a3; exact ⟨_, e3⟩
                  · rw [other j a0 a1 a2 a3]; exact h.some j hj,
          fz := fun j => by simpa using h.fz j,
          row := ⟨fun j => if j = k then a else sa j, fun j => if j = k then l else sl j, fun j => if j = k then c else sc j, fun j hj => by
            by_cases e : j = k
            · subst e
              simp only [Nat.zero_add, if_true]
              exact ⟨e0, e1, e2, e3⟩
            · obtain ⟨r0, r1, r2, r3⟩ := hr j (by omega)
              rw [Nat.zero_add] at r0 r1 r2 r3
              simp only [Nat.zero_add, if_neg e]
              exact ⟨by rw [other _ (by omega) (by omega) (by omega) (by omega)]; exact r0, by rw [other _ (by omega) (by omega) (by omega) (by omega)]; exact r1,
                by rw [other _ (by omega) (by omega) (by omega) (by omega)]; exact r2, by rw [other _ (by omega) (by omega) (by omega) (by omega)]; exact r3⟩⟩ }

theorem own_cur {w : World} {B e g n c : Nat} {xs : List Value} (h : w.ownsRow B e 1 (.slice (some ⟨g, 0, none⟩) n c) n xs) : ∃ cur : List Value, w.heap[g]? = some (.cells cur.toArray e (0, 0)) ∧ cur.length = c := by
  rcases h.2 with ⟨h, _⟩ | ⟨g', cap, cur, e1, _, hg, _, _, hs, _⟩
  · cases h
  · cases e1
    exact ⟨cur.toList, by simpa using hg, by simpa using hs⟩

theorem ints_cells (zs : List Int) : ∀ v ∈ zs.map (Value.int .i64), v.oneCell' = true := by
  intro v hv
  obtain ⟨z, _, rfl⟩ := List.mem_map.1 hv
  rfl

theorem copy_src {w wr w2 : World} {ad : Addr} {n c : Nat} {zs : List Int} (h : SI w (some ad) n c zs) (h1 : Below w.heap.size w wr) (h2 : Below wr.heap.size wr w2) :
    0 < (zs.map (Value.int .i64)).length → (some (⟨wr.heap.size, 0, none⟩ : Addr)) = some ⟨wr.heap.size, 0, none⟩ ∧ ∃ ad', some ad = some ad' ∧ ∀ j v, (zs.map (Value.int .i64))[j]? = some v → w2.cell? (ad'.add j) = some v := by
  intro _
  refine ⟨rfl, ad, rfl, fun j v hv => ?_⟩
  have hl := h.2.2.2.1
  have hj : j < n := by
    have := (List.getElem?_eq_some_iff.1 hv).1
    simp [hl] at this; exact this
  obtain ⟨ad', e, hc⟩ := h.2.2.2.2 j hj
  cases e
  have hb := World.block_lt_of_cell? _ _ hc
  rw [h2.cell (Nat.lt_of_lt_of_le hb h1.size), h1.cell hb, hc]
  simp [hl, hj] at hv ⊢
  exact hv

set_option maxRecDepth 100000 in
set_option maxHeartbeats 1600000 in
theorem build_any (b off n c : Nat) (q : Seqs) (zs : Nat → List Int) (w : World) (hn : n ≤ 1024) (hq : QRow w b off n q) (hs : ∀ j, j < n → SI w (q.sa j) (q.sl j) (q.sc j) (zs j)) :
    Calls Yba.prog 15 #[.slice (some ⟨b, off, none⟩) n c] w fun e w' => ∃ g, e = .returned (.slice (some ⟨g, 0, none⟩) n n) ∧ Fill w g n q n w' := by
  have qE : ∀ (w : World) (a : Option Addr) (n c n' c' : Nat), (binOp .eql 61 (.slice a n c) (.slice none n' c')).run Yba.prog w = .ok (.bool a.isNone) w := fun w a n c n' c' => Lib.run_eql_slice_nil w _ _ a n c n' c' Yba.underlying61
  obtain ⟨i0, hi, hz0, hz1, hz2⟩ := info_parts info65
  have HQ := hide hq
  have HS := hide hs
  clear hq hs
  go_enter Yba.func15, Yba.ntmps15
  go_wp2_with (at_make; refine wpList_make_full _ rfl (.tmp 9) (.tmp 9) 62 rfl w.heap.size 65 i0 (.agg #[.int .i64 0, .int .i64 0, .slice none 0 0, .int .i64 0]) 4 Yba.underlying62 hi hz0 hz1 .i64 .i64 (n : Int) (n : Int) n rfl rfl rfl rfl (by rw [hz2]; omega) (by unfold maxLen; omega) (Nat.le_refl _) ?_)
  intro w1 hown hgrow
  have HF : Hid (Fill w w.heap.size n q 0 w1) := fill_start hown hgrow
  clear hown hgrow
  go_wp2
  have qN : ∀ (w : World) (a : Option Addr) (n c n' c' : Nat), (binOp .neq 54 (.slice a n c) (.slice none n' c')).run Yba.prog w = .ok (.bool (!a.isNone)) w := fun w a n c n' c' => run_neq_slice_nil_any w _ _ a n c n' c' Yba.underlying54
  obtain ⟨j0, hj, hy0, hy1, hy2⟩ := info_parts info3
  go_loopw [4] (fun i wr => ∃ k : Nat, k ≤ n ∧ i = .int .i64 k ∧ Fill w w.heap.size n q k wr) (fun i _ => n - (intOf i).toNat)
  case atStart => exact ⟨0, Nat.zero_le _, rfl, HF.out⟩
  case round =>
    obtain ⟨k, hk, rfl, hf⟩ := hrel
    have HR := hide hf
    clear hf HF
    by_cases hlt : k < n
    · have HC := hide ((HQ.out.below HR.out.bel) k hlt)
      have HZ := hide (HS.out k hlt)
      obtain ⟨sa, hsa⟩ : ∃ sa, sa = q.sa k := ⟨_, rfl⟩
      have c2 := HC.out.2.2.1
      rw [← hsa] at c2 HZ
      clear hsa
      cases sa with
      | none =>
        go_wp2
        obtain ⟨c0, c1, _, c3⟩ := HC.out
        obtain ⟨v0, r0⟩ := HR.out.some (k * 4) (by omega)
        obtain ⟨v1, r1⟩ := HR.out.some (k * 4 + 1) (by omega)
        obtain ⟨v2, r2⟩ := HR.out.some (k * 4 + 2) (by omega)
        obtain ⟨v3, r3⟩ := HR.out.some (k * 4 + 3) (by omega)
        have rf := HR.out.fz
        have HN := hide (fill_step (a := none) (l := 0) (c := 0) HR.out hlt)
        go_region
        all_goals
          go_wp2
          go_roundw
          case rel => exact ⟨k + 1, by omega, by go_num, HN.out.drew⟩
          case measure => simp [intOf]; omega
      | some ad =>
        go_wp2_with (at_make; refine wpList_make_full _ rfl (.tmp 28) (.tmp 28) 54 rfl wr.heap.size 3 j0 (.int .i64 0) 1 Yba.underlying54 hj hy0 hy1 .i64 .i64 (q.sl k : Int) (q.sl k : Int) (q.sl k) rfl rfl rfl rfl (by have := HZ.out.2.2.1; rw [hy2]; omega) HZ.out.2.1 (Nat.le_refl _) ?_)
        intro w2 hown2 hgrow2
        obtain ⟨cur, hcur, hsz⟩ := own_cur hown2
        have HB2 : Hid (Below wr.heap.size wr w2) := (Below.refl _ _).grown hgrow2 (Nat.le_refl _) (fun k h => by cases h)
        have HG2 := hide hcur
        have c2' : w2.cell? ⟨b, off + k * 4 + 2, none⟩ = some (.slice (some ad) (q.sl k) (q.sc k)) := (HB2.out.cell (World.block_lt_of_cell? _ _ c2)).trans c2
        have HSZ := hide hsz
        clear hown2 hgrow2 hcur hsz
        have X1 : ((zs k).map (Value.int .i64)).length = Nat.min (q.sl k) (q.sl k) := by rw [List.length_map, HZ.out.2.2.2.1]; exact (Nat.min_self _).symm
        have X2 : 0 + ((zs k).map (Value.int .i64)).length ≤ cur.length := by rw [List.length_map, HZ.out.2.2.2.1, HSZ.out]; omega
        have Y1 := hide X1
        have Y2 := hide X2
        clear X1 X2
        go_wp2_with (refine wpList_copy_splice rfl (.tmp 30) (.tmp 35) 54 54 rfl 3 Yba.underlying54 size3 (some ⟨wr.heap.size, 0, none⟩) (some ad) (q.sl k) (q.sl k) (q.sl k) (q.sc k) rfl rfl wr.heap.size 0 cur 3 HG2.out ((zs k).map (Value.int .i64)) Y1.out (copy_src HZ.out HR.out.bel HB2.out) Y2.out (ints_cells (zs k)) wr.heap.size wr HB2.out (Nat.le_refl _) ?_; intro w3 hh3 hb3; have HB3 := hide hb3; clear hh3 hb3)
        obtain ⟨c0, c1, c2s, c3⟩ := HC.out
        have hbw : b < wr.heap.size := World.block_lt_of_cell? _ _ c0
        have c0 := (HB3.out.cell (by exact hbw)).trans c0
        have c1 := (HB3.out.cell (by exact hbw)).trans c1
        have c2 := (HB3.out.cell (by exact hbw)).trans c2
        have c3 := (HB3.out.cell (by exact hbw)).trans c3
        have HR3 := hide (HR.out.below HB3.out)
        obtain ⟨v0, r0⟩ := HR3.out.some (k * 4) (by omega)
        obtain ⟨v1, r1⟩ := HR3.out.some (k * 4 + 1) (by omega)
        obtain ⟨v2, r2⟩ := HR3.out.some (k * 4 + 2) (by omega)
        obtain ⟨v3, r3⟩ := HR3.out.some (k * 4 + 3) (by omega)
        have rf := HR3.out.fz
        have HN := hide (fill_step (a := some ⟨wr.heap.size, 0, none⟩) (l := q.sl k) (c := q.sl k) HR3.out hlt)
        clear c2' c2s
        go_region
        all_goals
          go_wp2
          go_roundw
          case rel => exact ⟨k + 1, by omega, by go_num, HN.out.drew⟩
          case measure => simp [intOf]; omega
    · go_wp2
      go_ret
      obtain rfl : k = n := by omega
      exact ⟨_, rfl, HR.out⟩
end Go.Proofs.Ybulkcbem.PE
