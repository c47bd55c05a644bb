import Derived.Test.YbulkcawkDoorFollow
namespace Go.Proofs.YbulkcawkDoor.D
open Go.RowKit

theorem own_take {w : World} {B e g cap n m : Nat} {xs : List Value} (h : w.ownsRow B e 1 (.slice (some ⟨g, 0, none⟩) n cap) n xs) (hm : m ≤ n) : w.ownsRow B e 1 (.slice (some ⟨g, 0, none⟩) m cap) m (xs.take m) := by
  refine ⟨by rw [List.length_take, h.1]; omega, ?_⟩
  rcases h.2 with ⟨h0, _⟩ | ⟨g', cap', cur, hv, hg, hh, hn, hcap, hsz, ht⟩
  · cases h0
  · cases hv
    refine Or.inr ⟨g, cap, cur, rfl, hg, hh, by omega, hcap, hsz, ?_⟩
    rw [← ht, List.take_take]
    congr 1
    omega

section
variable {w w' : World} {p : GP} {g : T.Gr} {rank small : Nat → Int} {ranked : Nat} {ps : List Nat} {fs : List FM} {fv : Value} {pb cap : Nat}

theorem GM.pcell (h : GM w p g rank small ranked ps fs (.slice (some ⟨pb, 0, none⟩) ps.length cap) fv) (j : Nat) (hj : j < ps.length) : w.cell? ⟨pb, j, none⟩ = some (.int .i32 (ps.getD j 0 : Nat)) := by
  rw [h.pend.cellAt j (by omega)]
  simp [hj]

theorem GM.pcap (h : GM w p g rank small ranked ps fs (.slice (some ⟨pb, 0, none⟩) ps.length cap) fv) : ps.length ≤ cap ∧ p.B ≤ pb := by
  rcases h.pend.2 with ⟨h0, _⟩ | ⟨g', cap', cur, hv, hg, hh, hn, hcap, hsz, ht⟩
  · cases h0
  · cases hv
    exact ⟨hn, hg⟩


theorem GM.record {pv : Value} (h : GM w p g rank small ranked ps fs pv fv) (u : Nat) (hu : u < g.n) (a b : Int) :
    GM ((w.setCell ⟨p.nb, u * 2, none⟩ (.int .i32 a)).setCell ⟨p.nb, u * 2 + 1, none⟩ (.int .i32 b)) p g (fun z => if z = u then a else rank z) (fun z => if z = u then b else small z) ranked ps fs pv fv ∧ But (fun k => k = p.gb ∨ k = p.nb) w ((w.setCell ⟨p.nb, u * 2, none⟩ (.int .i32 a)).setCell ⟨p.nb, u * 2 + 1, none⟩ (.int .i32 b)) := by
  have gn := h.st.gn
  refine ⟨h.re (((But.refl _ _).setCell (Or.inl (Or.inr rfl)) _).setCell (Or.inl (Or.inr rfl)) _) ((h.dy.setRank gn u hu a).setSmall gn u hu b), ((But.refl _ _).setCell (Or.inl (Or.inr rfl)) _).setCell (Or.inl (Or.inr rfl)) _⟩
end

theorem GM.cutP {w : World} {p : GP} {g : T.Gr} {rank small : Nat → Int} {ranked : Nat} {ps A C : List Nat} {fs : List FM} {fv : Value} {pb cap : Nat} (h : GM w p g rank small ranked ps fs (.slice (some ⟨pb, 0, none⟩) ps.length cap) fv) (e : ps = A ++ C) :
    GM (w.setCell ⟨p.gb, 3, none⟩ (.slice (some ⟨pb, 0, none⟩) A.length cap)) p g rank small ranked A fs (.slice (some ⟨pb, 0, none⟩) A.length cap) fv ∧ But (fun k => k = p.gb ∨ k = p.nb) w (w.setCell ⟨p.gb, 3, none⟩ (.slice (some ⟨pb, 0, none⟩) A.length cap)) := by
  have hgB := h.st.gB
  have hb1 : But (Dyn p) w (w.setCell ⟨p.gb, 3, none⟩ (.slice (some ⟨pb, 0, none⟩) A.length cap)) := (But.refl _ _).setCell (Or.inl (Or.inl rfl)) _
  refine ⟨{ st := h.st.but hb1, dy := h.dy.set3 h.st.gn _, pend := ?_, frames := ownsRow_setCell_below h.frames (a := ⟨p.gb, 3, none⟩) hgB _, fok := fun x hx => (h.fok x hx).but hb1 }, (But.refl _ _).setCell (Or.inl (Or.inl rfl)) _⟩
  have h1 := own_take h.pend (m := A.length) (by rw [e]; simp)
  have h2 : (ps.map fun v : Nat => Value.int .i32 (v : Int)).take A.length = A.map fun v : Nat => Value.int .i32 (v : Int) := by rw [e]; simp
  rw [h2] at h1
  exact ownsRow_setCell_below h1 (a := ⟨p.gb, 3, none⟩) hgB _

theorem two_dyn {p : GP} {w w' : World} (h : But (fun k => k = p.gb ∨ k = p.nb) w w') : But (Dyn p) w w' := h.mono (fun k _ e => by rcases e with e | e; exact Or.inl e; exact Or.inr (Or.inl e))

theorem mem_take_succ {l : List Nat} {k : Nat} (hk : k < l.length) (z : Nat) : z ∈ l.take (k + 1) ↔ z = l[k] ∨ z ∈ l.take k := by
  rw [List.take_add_one, List.mem_append, List.getElem?_eq_getElem hk]
  simp only [Option.toList_some, List.mem_singleton]
  exact Or.comm

theorem fun_take {l : List Nat} {k : Nat} (hk : k < l.length) (a : Int) (f : Nat → Int) : (fun z => if z = l[k] then a else if z ∈ l.take k then a else f z) = fun z => if z ∈ l.take (k + 1) then a else f z := by
  funext z
  by_cases h1 : z = l[k]
  · rw [if_pos h1, if_pos ((mem_take_succ hk z).2 (Or.inl h1))]
  · by_cases h2 : z ∈ l.take k
    · rw [if_neg h1, if_pos h2, if_pos ((mem_take_succ hk z).2 (Or.inr h2))]
    · rw [if_neg h1, if_neg h2, if_neg (fun h => by rcases (mem_take_succ hk z).1 h with h | h; exact h1 h; exact h2 h)]

set_option maxRecDepth 100000 in
set_option maxHeartbeats 1600000 in
theorem close_any (p : GP) (g : T.Gr) (rank small : Nat → Int) (ranked : Nat) (A : List Nat) (v : Nat) (t : List Nat) (fs : List FM) (pb cap : Nat) (fv : Value) (sm : Int) (w : World) (hl : (A ++ v :: t).length ≤ 300) (hvt : v ∉ t) (hlt : ∀ u, u ∈ v :: t → u < g.n)
    (h : GM w p g rank small ranked (A ++ v :: t) fs (.slice (some ⟨pb, 0, none⟩) (A ++ v :: t).length cap) fv) :
    Calls Ybad.prog 16 #[.pointer (some ⟨p.gb, 0, none⟩), .int .i32 (v : Int), .int .i32 sm] w fun e w' => e = .returned (.tuple #[]) ∧ But (fun k => k = p.gb ∨ k = p.nb) w w' ∧
      GM w' p g (fun u => if u ∈ v :: t then T.MX else rank u) (fun u => if u ∈ v :: t then sm else small u) ranked A fs (.slice (some ⟨pb, 0, none⟩) A.length cap) fv := by
  have c3 := h.dy.c3
  have HP := hide (fun j (hj : j < (A ++ v :: t).length) => h.pcell j hj)
  obtain ⟨hcap, hB⟩ := h.pcap
  have hgB := h.st.gB
  have hnB := h.st.nB
  have HL : Hid ((A ++ v :: t).length = A.length + 1 + t.length) := by unfold Hid; simp; omega
  generalize hm : (A ++ v :: t).length = m at *
  have HH := hide h
  have HM := hide hm
  clear h hm
  have hAm : A.length + 1 + t.length = m := HL.out.symm
  go_enter Ybad.func16, Ybad.ntmps16
  go_wp2
  go_loop [6] (fun a => ∃ k : Nat, A.length ≤ k ∧ k < m ∧ a = .int .i64 k) (fun a => (intOf a).toNat)
  case atStart => exact ⟨m - 1, by omega, by omega, by go_num⟩
  case round =>
    obtain ⟨k, hk1, hk2, rfl⟩ := hrel
    have pc := HP.out k hk2
    by_cases hk : k = A.length
    · have pc' : w.cell? ⟨pb, k, none⟩ = some (.int .i32 (v : Int)) := by rw [pc]; simp [hk]
      subst hk
      clear pc
      go_wp2
      go_loopw [33] (fun i wr => ∃ k : Nat, k ≤ m - A.length ∧ i = .int .i64 k ∧ Hid (GM wr p g (fun u => if u ∈ (v :: t).take k then T.MX else rank u) (fun u => if u ∈ (v :: t).take k then sm else small u) ranked (A ++ v :: t) fs (.slice (some ⟨pb, 0, none⟩) m cap) fv) ∧ Hid (But (fun k => k = p.gb ∨ k = p.nb) w wr)) (fun i _ => (m - A.length) - (intOf i).toNat)
      case atStart => exact ⟨0, Nat.zero_le _, rfl, (by simpa using HH), But.refl _ _⟩
      case round =>
        obtain ⟨k, hk, rfl, HG, HW⟩ := hrel
        have r1 := HG.out.dy.c1
        by_cases hkm : k < m - A.length
        · have hkl : k < (v :: t).length := by simp; omega
          obtain ⟨u, hu⟩ : ∃ u, u = (v :: t)[k] := ⟨_, rfl⟩
          have hug : u < g.n := hlt u (by rw [hu]; exact List.getElem_mem hkl)
          have HG' := HG.out
          rw [← HM.out] at HG'
          have r2 := HG'.pcell (A.length + k) (by rw [HM.out]; omega)
          rw [List.getD_eq_getElem?_getD, List.getElem?_append_right (by omega), show A.length + k - A.length = k by omega, List.getElem?_eq_getElem hkl, Option.getD_some, ← hu] at r2
          have r3 := HG'.dy.rk u hug
          have r4 := HG'.dy.sm u hug
          have r5 := HG'.dy.nf
          have E := HG.out.record u hug T.MX sm
          have e1 : (fun z => if z = u then T.MX else if z ∈ (v :: t).take k then T.MX else rank z) = fun z => if z ∈ (v :: t).take (k + 1) then T.MX else rank z := by rw [hu]; exact fun_take hkl _ _
          have e2 : (fun z => if z = u then sm else if z ∈ (v :: t).take k then sm else small z) = fun z => if z ∈ (v :: t).take (k + 1) then sm else small z := by rw [hu]; exact fun_take hkl _ _
          rw [e1, e2] at E
          have HE := hide E
          clear E HG' e1 e2 hu
          go_wp2
          go_roundw
          case rel => exact ⟨k + 1, by omega, by go_num, HE.out.1, HW.out.trans HE.out.2⟩
          case measure => simp [intOf]; omega
        · have hkq : k = m - A.length := by omega
          have HT : Hid ((v :: t).take k = v :: t) := by unfold Hid; exact List.take_of_length_le (by simp; omega)
          rw [HT.out] at HG
          have HG' := HG.out
          rw [← HM.out] at HG'
          have E := hide (HG'.cutP rfl)
          have r3 := HG'.dy.c3
          rw [HM.out] at r3
          have r5 := HG'.dy.fz
          clear HG'
          go_wp2
          refine bodyPost_end (results_none rfl _ _ _) rfl ⟨rfl, HW.out.trans E.out.2, E.out.1⟩
    · obtain ⟨u, hu, huv⟩ : ∃ u : Nat, w.cell? ⟨pb, k, none⟩ = some (.int .i32 (u : Int)) ∧ (u : Int) ≠ v := by
        refine ⟨_, pc, ?_⟩
        intro e
        apply hvt
        have e' : (A ++ v :: t).getD k 0 = v := by omega
        obtain ⟨q, hq⟩ : ∃ q, k - A.length = q + 1 := ⟨k - A.length - 1, by omega⟩
        have hq2 : q < t.length := by omega
        rw [List.getD_eq_getElem?_getD, List.getElem?_append_right (by omega), hq, List.getElem?_cons_succ, List.getElem?_eq_getElem hq2] at e'
        simp only [Option.getD_some] at e'
        rw [← e']
        exact List.getElem_mem _
      clear pc
      go_wp2
      go_round
      case rel => exact ⟨k - 1, by omega, by omega, by go_num⟩
      case measure => simp [intOf]; omega
end Go.Proofs.YbulkcawkDoor.D
