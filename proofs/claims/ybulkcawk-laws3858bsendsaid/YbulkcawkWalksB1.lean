import Derived.Test.YbulkcawkProg
import Derived.Test.YbulkcawkBut
import Derived.Laws.EntriesVeiled
namespace Go.Proofs.Ybulkcawk.PB
open Go.RowKit

theorem info3 : (Yba.prog.info? 3).map (fun i => (i.zero, i.size, i.bytes)) = some (some (.int .i64 0), 1, 8) := by kernel_rfl

/-- the slice in the cell at 'p' holds just the one number r, in a block from B on -/
def Log1 (B : Nat) (w : World) (p : Addr) (r : Int) : Prop :=
  ∃ g cap, B ≤ g ∧ w.cell? p = some (.slice (some ⟨g, 0, none⟩) 1 cap) ∧ w.cell? ⟨g, 0, none⟩ = some (.int .i64 r)

theorem Log1.mono {B C : Nat} {w : World} {p : Addr} {r : Int} (h : Log1 B w p r) (hc : C ≤ B) : Log1 C w p r := by
  obtain ⟨g, cap, h0, h1, h2⟩ := h
  exact ⟨g, cap, by omega, h1, h2⟩

theorem Log1.set {B : Nat} {w : World} {p a : Addr} {r : Int} (h : Log1 B w p r) (hp : a ≠ p) (ha : a.block < B) (u : Value) : Log1 B (w.setCell a u) p r := by
  obtain ⟨g, cap, h0, h1, h2⟩ := h
  refine ⟨g, cap, h0, by rw [cell_other _ hp]; exact h1, by rw [cell_other _ (by rintro rfl; simp at ha; omega)]; exact h2⟩

theorem Log1.but {B : Nat} {S : Nat → Prop} {w w' : World} {p : Addr} {r : Int} (h : Log1 B w p r) (hb : But S w w') (hp : ¬ S p.block) (hs : ∀ k, B ≤ k → ¬ S k) : Log1 B w' p r := by
  obtain ⟨g, cap, h0, h1, h2⟩ := h
  exact ⟨g, cap, h0, hb.cellSome h1 hp, hb.cellSome h2 (hs _ h0)⟩

theorem app1 {w wa w1 : World} {B : Nat} {v : Value} {r : Int} {S : Nat → Prop} (ha : But S w wa) (hown : w1.ownsRow B 3 1 v (0 + 1) ([] ++ [.int .i64 r])) (hg : wa.grownBy w1 none) :
    ∃ g cap, v = .slice (some ⟨g, 0, none⟩) 1 cap ∧ B ≤ g ∧ w1.cell? ⟨g, 0, none⟩ = some (.int .i64 r) ∧ But S w w1 := by
  have hb : But S w w1 := ha.grown hg (fun k h => by cases h)
  rcases hown.2 with ⟨_, h⟩ | ⟨g, cap, cur, rfl, h1, _⟩
  · omega
  · exact ⟨g, cap, rfl, h1, by have := hown.cellAt 0 (by omega); simpa using this, hb⟩

theorem log_set {B N : Nat} {w1 : World} {c g cap : Nat} {r : Int} {u : Value} (hc : c < N) (hg : N ≤ g) (hB : B ≤ g) (hr : w1.cell? ⟨g, 0, none⟩ = some (.int .i64 r)) (hk : w1.cell? ⟨c, 1, none⟩ = some u) :
    Log1 B (w1.setCell ⟨c, 1, none⟩ (.slice (some ⟨g, 0, none⟩) 1 cap)) ⟨c, 1, none⟩ r :=
  ⟨g, cap, hB, cell_same _ hk, by rw [cell_blk _ (by omega)]; exact hr⟩

set_option maxRecDepth 100000 in
theorem next_any (c : Nat) (v0 : Value) (r : Int) (w : World) (hc : c < w.heap.size) (h0 : w.cell? ⟨c, 0, none⟩ = some v0) (h1 : w.cell? ⟨c, 1, none⟩ = some (.slice none 0 0)) (f1 : w.frozen? ⟨c, 1, none⟩ = false) :
    Calls Yba.prog 37 #[.pointer (some ⟨c, 0, none⟩), .int .i64 r] w fun e w' => e = .returned (.tuple #[]) ∧ But (· = c) w w' ∧ w'.cell? ⟨c, 0, none⟩ = some v0 ∧ Log1 w.heap.size w' ⟨c, 1, none⟩ r := by
  obtain ⟨i0, hi, hz0, hz1, hz2⟩ := info_parts info3
  go_enter Yba.func37, Yba.ntmps37
  go_wp2_with (at_builtin; refine wpList_append_own _ rfl (.tmp 8) (.tmp 10) 29 rfl w.heap.size 3 i0 (.int .i64 0) 1 8 Yba.underlying29 hi hz0 hz1 hz2 rfl (by decide) _ _ _ rfl (World.ownsRow_nil _ _ _ _) ⟨w.heap.size, 0, none⟩ 1 1 [.int .i64 r] rfl rfl ?c1 ?c2 (by unfold maxLen; omega) (by omega) (by simp) ?_)
  case c1 => intro j u hj; match j, hj with | 0, hj => simp at hj; subst hj; simp [Addr.add]
  case c2 => intro u hu; simp at hu; subst hu; rfl
  · intro v' w1 hown hgrow _
    obtain ⟨g, cap, rfl, hg, hr, hb⟩ := app1 ((But.refl (fun _ => False) w).alloc _) hown hgrow
    clear hown hgrow
    have k0 := hb.cellSome h0 id
    have k1 := hb.cellSome h1 id
    have e1 := (hb.frozen (p := ⟨c, 1, none⟩) hc id).trans f1
    have hb' : But (· = c) w w1 := hb.mono (fun _ _ h => h.elim)
    clear hb
    go_wp2
    go_end0
    exact ⟨rfl, hb'.setCell (Or.inl rfl) _, by rw [cell_off _ (by omega)]; exact k0, log_set hc hg hg hr k1⟩

/-- what a copy broadcasts -/
def pays (pay : Int) : Value := if pay = 0 then .nilIface else .iface 3 (.int .i64 pay)

set_option maxRecDepth 100000 in
theorem send_any (c : Nat) (pay r : Int) (w : World) (hc : c < w.heap.size) (h0 : w.cell? ⟨c, 0, none⟩ = some (.int .i64 pay)) (h1 : w.cell? ⟨c, 1, none⟩ = some (.slice none 0 0)) (f1 : w.frozen? ⟨c, 1, none⟩ = false) :
    Calls Yba.prog 35 #[.pointer (some ⟨c, 0, none⟩), .int .i64 r] w fun e w' => e = .returned (.agg #[pays pay, .nilFunc]) ∧ But (· = c) w w' ∧ w'.cell? ⟨c, 0, none⟩ = some (.int .i64 pay) ∧ Log1 w.heap.size w' ⟨c, 1, none⟩ r := by
  obtain ⟨i0, hi, hz0, hz1, hz2⟩ := info_parts info3
  by_cases hp : pay = 0
  · subst hp
    go_enter Yba.func35, Yba.ntmps35
    go_wp2_with (at_builtin; refine wpList_append_own _ rfl (.tmp 9) (.tmp 11) 29 rfl (w.heap.size + 1) 3 i0 (.int .i64 0) 1 8 Yba.underlying29 hi hz0 hz1 hz2 rfl (by decide) _ _ _ rfl (World.ownsRow_nil _ _ _ _) ⟨w.heap.size + 1, 0, none⟩ 1 1 [.int .i64 r] rfl rfl ?c1 ?c2 (by unfold maxLen; omega) (by omega) (by simp) ?_)
    case c1 => intro j u hj; match j, hj with | 0, hj => simp at hj; subst hj; simp [Addr.add]
    case c2 => intro u hu; simp at hu; subst hu; rfl
    · intro v' w1 hown hgrow _
      obtain ⟨g, cap, rfl, hg, hr, hb⟩ := app1 ((But.refl (fun _ => False) (w.alloc (.cells #[.nilIface, .nilFunc] 42))).alloc _) hown hgrow
      clear hown hgrow
      have k0 := hb.cellSome (p := ⟨c, 0, none⟩) (v := .int .i64 0) (by rw [World.cell?_alloc_past _ _ _ hc]; exact h0) id
      have k1 := hb.cellSome (p := ⟨c, 1, none⟩) (by rw [World.cell?_alloc_past _ _ _ hc]; exact h1) id
      have e1 := (hb.frozen (p := ⟨c, 1, none⟩) (by simp; omega) id).trans ((World.frozen?_alloc_past _ _ _ hc).trans f1)
      have q0 := hb.cellSome (p := ⟨w.heap.size, 0, none⟩) (v := .nilIface) (by simp) id
      have q1 := hb.cellSome (p := ⟨w.heap.size, 1, none⟩) (v := .nilFunc) (by simp) id
      have z0 := (hb.frozen (p := ⟨w.heap.size, 0, none⟩) (by simp) id).trans (World.frozen?_alloc_new _ _ _ _)
      have z1 := (hb.frozen (p := ⟨w.heap.size, 1, none⟩) (by simp) id).trans (World.frozen?_alloc_new _ _ _ _)
      have hb' : But (· = c) w w1 := ((But.refl _ _).alloc _).trans (hb.mono (fun _ _ h => h.elim))
      clear hb
      go_wp2
      refine bodyPost_ret (v := .agg #[.nilIface, .nilFunc]) (by simp [results, Yba.results35, go_sem, q0, q1]) rfl ⟨by simp [pays], (((hb'.setCell (Or.inl rfl) _).setCell (Or.inr (Nat.le_refl _)) _).setCell (Or.inr (Nat.le_refl _)) _), ?_, ?_⟩
      · rw [cell_blk _ (by omega), cell_blk _ (by omega), cell_off _ (by omega)]; exact k0
      · exact (((log_set hc (by omega) hg hr k1).set (ne_blk (by omega)) (by simp) _).set (ne_blk (by omega)) (by simp) _).mono (Nat.le_succ _)
  · have hp' : (pay == 0) = false := by simpa using hp
    go_enter Yba.func35, Yba.ntmps35
    go_wp2_with (at_builtin; refine wpList_append_own _ rfl (.tmp 9) (.tmp 11) 29 rfl (w.heap.size + 1) 3 i0 (.int .i64 0) 1 8 Yba.underlying29 hi hz0 hz1 hz2 rfl (by decide) _ _ _ rfl (World.ownsRow_nil _ _ _ _) ⟨w.heap.size + 1, 0, none⟩ 1 1 [.int .i64 r] rfl rfl ?c1 ?c2 (by unfold maxLen; omega) (by omega) (by simp) ?_)
    case c1 => intro j u hj; match j, hj with | 0, hj => simp at hj; subst hj; simp [Addr.add]
    case c2 => intro u hu; simp at hu; subst hu; rfl
    · intro v' w1 hown hgrow _
      obtain ⟨g, cap, rfl, hg, hr, hb⟩ := app1 ((But.refl (fun _ => False) (w.alloc (.cells #[.nilIface, .nilFunc] 42))).alloc _) hown hgrow
      clear hown hgrow
      have k0 := hb.cellSome (p := ⟨c, 0, none⟩) (v := .int .i64 pay) (by rw [World.cell?_alloc_past _ _ _ hc]; exact h0) id
      have k1 := hb.cellSome (p := ⟨c, 1, none⟩) (by rw [World.cell?_alloc_past _ _ _ hc]; exact h1) id
      have e1 := (hb.frozen (p := ⟨c, 1, none⟩) (by simp; omega) id).trans ((World.frozen?_alloc_past _ _ _ hc).trans f1)
      have q0 := hb.cellSome (p := ⟨w.heap.size, 0, none⟩) (v := .nilIface) (by simp) id
      have q1 := hb.cellSome (p := ⟨w.heap.size, 1, none⟩) (v := .nilFunc) (by simp) id
      have z0 := (hb.frozen (p := ⟨w.heap.size, 0, none⟩) (by simp) id).trans (World.frozen?_alloc_new _ _ _ _)
      have z1 := (hb.frozen (p := ⟨w.heap.size, 1, none⟩) (by simp) id).trans (World.frozen?_alloc_new _ _ _ _)
      have hb' : But (· = c) w w1 := ((But.refl _ _).alloc _).trans (hb.mono (fun _ _ h => h.elim))
      clear hb
      go_wp2
      refine bodyPost_ret (v := .agg #[.iface 3 (.int .i64 pay), .nilFunc]) (by simp [results, Yba.results35, go_sem, q0, q1]) rfl ⟨by simp [pays, hp], (((hb'.setCell (Or.inl rfl) _).setCell (Or.inr (Nat.le_refl _)) _).setCell (Or.inr (Nat.le_refl _)) _), ?_, ?_⟩
      · rw [cell_blk _ (by omega), cell_blk _ (by omega), cell_off _ (by omega)]; exact k0
      · exact (((log_set hc (by omega) hg hr k1).set (ne_blk (by omega)) (by simp) _).set (ne_blk (by omega)) (by simp) _).mono (Nat.le_succ _)

/-- A METHOD CALLED ON AN INTERFACE VALUE WHOSE DYNAMIC TYPE IS KNOWN, as one step: the method's name is the operation's own. -/
theorem wpList_invoke1 {P : Program} {ops : Array Oper} {rest : List Oper} {o : Oper} {a : Act} {w : World} {Q : Exit → Act → World → Prop} (hgd : o.guard = none) (r x : Operand) (nm : String) (ats : Array TypeId)
    (ho : o.op = .call { callee := .invoke r nm, args := #[x], argTypes := ats }) (t : TypeId) (v : Value) (hr : a.eval r = .iface t v) (xv : Value) (hx : a.eval x = xv) (f : FuncId) (u : Value)
    (hm : (callMethod (.iface t v) nm #[xv]).run P w = .ok (.enter f #[u, xv]) w) {R : Ending → World → Prop} (hc : Calls P f #[u, xv] w R)
    (hk : ∀ e w', R e w' → ∃ v, e = .returned v ∧ wpList P ops Q rest (a.put o.dst v) w') : wpList P ops Q (o :: rest) a w := by
  refine wpList_plain hgd fun K hK => ?_
  unfold Oper.wp
  have e : (execOp a.eval o).run P w = .ok (.enter f #[u, xv]) w := by
    simp only [execOp, ho, resolve, invoke, hr, hx, List.map_toArray, List.map_cons, List.map_nil]
    simpa using hm
  rw [e, Oper.upon_enter]
  refine hc.mono ?_
  intro e w' h
  obtain ⟨v, rfl, h'⟩ := hk e w' h
  exact hK _ _ h'


end Go.Proofs.Ybulkcawk.PB
