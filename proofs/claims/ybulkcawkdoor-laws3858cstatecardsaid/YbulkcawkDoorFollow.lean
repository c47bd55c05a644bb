import Derived.Test.YbulkcawkDoorTop
namespace Go.Proofs.YbulkcawkDoor.D
open Go.RowKit

theorem getD_lt {ids : List Int} {k : Nat} (h : k < ids.length) : ids.getD k 0 = ids[k] := by simp [h]

theorem follow_end {w : World} {p : GP} {g : T.Gr} {rank small : Nat → Int} {ranked : Nat} {ps : List Nat} {fs : List FM} {pv : Value} {fb cap : Nat} {x x' : FM} (h : GM w p g rank small ranked ps (fs ++ [x]) pv (.slice (some ⟨fb, 0, none⟩) (fs.length + 1) cap)) (hok : FMok w p x') (hv : x'.fr.node = x.fr.node) :
    GM (((w.setCell ⟨fb, fs.length * 4, none⟩ (.slice x'.a x'.l x'.c)).setCell ⟨fb, fs.length * 4 + 2, none⟩ (.int .i32 x'.fr.low)).setCell ⟨fb, fs.length * 4 + 3, none⟩ (.int .i32 x'.fr.small)) p g rank small ranked ps (fs ++ [x']) pv (.slice (some ⟨fb, 0, none⟩) (fs.length + 1) cap) ∧
      But (Dyn p) w (((w.setCell ⟨fb, fs.length * 4, none⟩ (.slice x'.a x'.l x'.c)).setCell ⟨fb, fs.length * 4 + 2, none⟩ (.int .i32 x'.fr.low)).setCell ⟨fb, fs.length * 4 + 3, none⟩ (.int .i32 x'.fr.small)) := by
  have hll : ∀ z : FM, (fs ++ [z]).length = fs.length + 1 := fun z => by simp
  have e1 : GM w p g rank small ranked ps (fs ++ [x]) pv (.slice (some ⟨fb, 0, none⟩) (fs ++ [x]).length cap) := by rw [hll]; exact h
  have h1 := e1.fset (A := fs) (C := []) (x' := ⟨x'.a, x'.l, x'.c, ⟨x'.fr.ids, x.fr.node, x.fr.low, x.fr.small⟩⟩) rfl 0 (by omega) (.slice x'.a x'.l x'.c) (by simp [fcells]) { ids := hok.ids, nil := hok.nil, cap := hok.cap, not := hok.not, big := hok.big, idw := hok.idw }
  have h2 := h1.1.fset (A := fs) (C := []) (x' := ⟨x'.a, x'.l, x'.c, ⟨x'.fr.ids, x.fr.node, x'.fr.low, x.fr.small⟩⟩) rfl 2 (by omega) (.int .i32 x'.fr.low) (by simp [fcells]) (FMok.but (x := ⟨x'.a, x'.l, x'.c, ⟨x'.fr.ids, x.fr.node, x'.fr.low, x.fr.small⟩⟩) { ids := hok.ids, nil := hok.nil, cap := hok.cap, not := hok.not, big := hok.big, idw := hok.idw } h1.2)
  have h3 := h2.1.fset (A := fs) (C := []) (x' := x') rfl 3 (by omega) (.int .i32 x'.fr.small) (by simp [fcells, hv]) ((hok.but h1.2).but h2.2)
  have hB := (h1.2.trans h2.2).trans h3.2
  have hG := h3.1
  rw [hll] at hG
  exact ⟨hG, hB⟩

theorem FMok.rest {w : World} {p : GP} {b off l c k v : Nat} {ids : List Int} {lo sm lo1 sm1 : Int} (h : FMok w p ⟨some ⟨b, off, none⟩, l, c, ⟨ids, v, lo, sm⟩⟩) (hk : k < l) : FMok w p ⟨some ⟨b, off + (k + 1), none⟩, l - (k + 1), c - (k + 1), ⟨ids.drop (k + 1), v, lo1, sm1⟩⟩ := by
  have h1 : ids.length = l := h.ids.1
  have h2 := h.cap
  have h3 := h.big
  simp only at h2 h3
  refine { ids := ⟨by simp [h1], fun j hj => ?_⟩, nil := fun e => (by cases e), cap := by show l - (k + 1) ≤ c - (k + 1); omega, not := ?_, big := by show l - (k + 1) ≤ 4096; omega, idw := fun i hi => h.idw i (List.mem_of_mem_drop hi) }
  · obtain ⟨b', off', e, hb, hcell⟩ := h.ids.2 (k + 1 + j) (by show k + 1 + j < l; simp only at hj; omega)
    cases e
    refine ⟨b, off + (k + 1), rfl, hb, ?_⟩
    rw [show off + (k + 1) + j = off + (k + 1 + j) by omega, hcell]
    simp [Nat.add_assoc]
  · intro b' off' e
    cases e
    exact h.not b off rfl

theorem FMok.rest0 {w : World} {p : GP} {b off l c k v : Nat} {ids : List Int} {lo sm lo1 sm1 : Int} (h : FMok w p ⟨some ⟨b, off, none⟩, l, c, ⟨ids, v, lo, sm⟩⟩) (hk : k < l) (hc : c = k + 1) : FMok w p ⟨some ⟨b, off, none⟩, l - (k + 1), 0, ⟨ids.drop (k + 1), v, lo1, sm1⟩⟩ := by
  have h1 : ids.length = l := h.ids.1
  have h2 := h.cap
  simp only at h2
  refine { ids := ⟨by simp [h1], fun j hj => ?_⟩, nil := fun e => (by cases e), cap := by show l - (k + 1) ≤ 0; omega, not := h.not, big := by show l - (k + 1) ≤ 4096; omega, idw := fun i hi => h.idw i (List.mem_of_mem_drop hi) }
  simp only at hj; omega

theorem FMok.none {w : World} {p : GP} {v : Nat} {lo1 sm1 : Int} : FMok w p ⟨Option.none, 0, 0, ⟨[], v, lo1, sm1⟩⟩ :=
  { ids := ⟨rfl, fun j hj => by simp at hj⟩, nil := fun _ => rfl, cap := Nat.le_refl _, not := fun _ _ e => (by cases e), big := by show 0 ≤ 4096; omega, idw := fun i hi => (by cases hi) }

theorem min_if (a b : Int) : (if b < a then b else a) = min a b := by
  by_cases h : b < a
  · rw [if_pos h, Int.min_eq_right (by omega)]
  · rw [if_neg h, Int.min_eq_left (by omega)]

theorem wrap_neg {id : Int} {n : Nat} (h1 : -2147483648 ≤ id) (h2 : id < 0) (hn : n ≤ 300) : (n : Int) ≤ IntKind.u64.wrap id := by
  have : IntKind.u64.wrap id = id % 18446744073709551616 := by simp [IntKind.wrap, IntKind.bits, IntKind.signed]
  rw [this]
  omega

set_option maxRecDepth 100000 in
set_option maxHeartbeats 1600000 in
theorem follow_any (p : GP) (g : T.Gr) (rank small : Nat → Int) (ranked : Nat) (ps : List Nat) (fs : List FM) (a : Option Addr) (l c : Nat) (ids : List Int) (v : Nat) (lo sm : Int) (pv : Value) (fb cap : Nat) (w : World) (hn : g.n ≤ 300)
    (h : GM w p g rank small ranked ps (fs ++ [⟨a, l, c, ⟨ids, v, lo, sm⟩⟩]) pv (.slice (some ⟨fb, 0, none⟩) (fs.length + 1) cap)) :
    Calls Ybad.prog 15 #[.pointer (some ⟨p.gb, 0, none⟩), .pointer (some ⟨fb, fs.length * 4, none⟩)] w fun e w' => But (Dyn p) w w' ∧
      ∃ a' l' c' o lo' sm', T.fol g.n rank small ids lo sm = (o, lo', sm') ∧ e = .returned (.tuple #[.int .i32 (match o with | some (y, _) => (y : Int) | none => 0), .bool o.isSome]) ∧
        GM w' p g rank small ranked ps (fs ++ [⟨a', l', c', ⟨match o with | some (_, r) => r | none => [], v, lo', sm'⟩⟩]) pv (.slice (some ⟨fb, 0, none⟩) (fs.length + 1) cap) := by
  have hll : ∀ z : FM, (fs ++ [z]).length = fs.length + 1 := fun z => by simp
  have c1 := h.dy.c1
  have hok := h.fok ⟨a, l, c, ⟨ids, v, lo, sm⟩⟩ (by simp)
  have hbig : l ≤ 4096 := hok.big
  have HO := hide hok
  have HG := hide h
  rw [← hll ⟨a, l, c, ⟨ids, v, lo, sm⟩⟩] at h
  have f0 := h.fcell (A := fs) (C := []) rfl 0 (by omega)
  have f2 := h.fcell (A := fs) (C := []) rfl 2 (by omega)
  have f3 := h.fcell (A := fs) (C := []) rfl 3 (by omega)
  simp only [fcells, Nat.add_zero, List.getElem?_cons_zero, List.getElem?_cons_succ] at f0 f2 f3
  clear h hok
  have HLL := hide hll
  clear hll
  go_enter Ybad.func15, Ybad.ntmps15
  go_wp2
  go_region
  go_wp2
  go_loopw [7, 8, 30] (fun x y i wr => ∃ k : Nat, k ≤ l ∧ i = .int .i64 k ∧ ∃ lo1 sm1, x = .int .i32 lo1 ∧ y = .int .i32 sm1 ∧ Hid (T.fol g.n rank small ids lo sm = T.fol g.n rank small (ids.drop k) lo1 sm1) ∧ Hid (Below w.heap.size w wr)) (fun _ _ i _ => l - (intOf i).toNat)
  case atStart => exact ⟨0, Nat.zero_le _, rfl, lo, sm, rfl, rfl, rfl, (Below.refl _ _).drew⟩
  case round =>
    obtain ⟨k, hk, rfl, lo1, sm1, rfl, rfl, HF, HW⟩ := hrel
    have GR := hide (HG.out.below HW.out)
    have c1r := GR.out.dy.c1
    by_cases hkl : k < l
    · have HK := (HO.out.but (But.ofBelow HW.out)).ids
      obtain ⟨b, off, rfl, hbB, hc⟩ := HK.2 k hkl
      have hlen : k < ids.length := by rw [HK.1]; exact hkl
      obtain ⟨id, hid⟩ : ∃ id, id = ids.getD k 0 := ⟨_, rfl⟩
      have hdrop : ids.drop k = id :: ids.drop (k + 1) := by
        rw [hid, List.drop_eq_getElem_cons hlen, getD_lt hlen]
      have hw := HO.out.idw id (by show id ∈ ids; rw [hid, getD_lt hlen]; exact List.getElem_mem hlen)
      rw [← hid] at hc
      rw [hdrop] at HF
      clear HK hlen hid hdrop
      obtain ⟨hw1, hw2⟩ := hw
      by_cases hi : 0 ≤ id ∧ id < (g.n : Int)
      · obtain ⟨y, rfl⟩ : ∃ y : Nat, id = y := ⟨id.toNat, by omega⟩
        have hy : y < g.n := by omega
        have rk := GR.out.dy.rk y hy
        have sk := GR.out.dy.sm y hy
        by_cases h0 : rank y = 0
        · have HE : Hid (T.fol g.n rank small ids lo sm = (some (y, ids.drop (k + 1)), lo1, sm1)) := by
            rw [HF.out]; show Hid _; unfold Hid; simp only [T.fol, Int.toNat_natCast, if_pos hi, if_pos h0]
          rw [h0] at rk
          clear hw1 hw2 HF
          have G1 := hide (GR.out.below ((Below.refl _ _).alloc (Nat.le_refl _) (Obj.cells #[.int .i32 0, .int .i32 (small y)] 42)))
          have g1 := G1.out
          rw [← HLL.out ⟨some ⟨b, off, none⟩, l, c, ⟨ids, v, lo, sm⟩⟩] at g1
          have q0 := g1.fcell (A := fs) (C := []) rfl 0 (by omega)
          have q2 := g1.fcell (A := fs) (C := []) rfl 2 (by omega)
          have q3 := g1.fcell (A := fs) (C := []) rfl 3 (by omega)
          have qz := g1.ffz
          simp only [fcells, Nat.add_zero, List.getElem?_cons_zero, List.getElem?_cons_succ] at q0 q2 q3
          clear g1
          by_cases hcap : c = k + 1
          · have E := hide (follow_end (x' := ⟨some ⟨b, off, none⟩, l - (k + 1), 0, ⟨ids.drop (k + 1), v, lo1, sm1⟩⟩) G1.out ((HO.out.but (But.ofBelow (HW.out.alloc HW.out.size _))).rest0 hkl hcap) rfl)
            go_wp2
            refine bodyPost_ret (v := .tuple #[.int .i32 (y : Int), .bool true]) (by simp [results, Ybad.results15, go_sem]) rfl ⟨((But.ofBelow HW.out).alloc _).trans E.out.2, _, _, _, _, _, _, HE.out, rfl, E.out.1⟩
          · have E := hide (follow_end (x' := ⟨some ⟨b, off + (k + 1), none⟩, l - (k + 1), c - (k + 1), ⟨ids.drop (k + 1), v, lo1, sm1⟩⟩) G1.out ((HO.out.but (But.ofBelow (HW.out.alloc HW.out.size _))).rest hkl) rfl)
            go_wp2
            refine bodyPost_ret (v := .tuple #[.int .i32 (y : Int), .bool true]) (by simp [results, Ybad.results15, go_sem]) rfl ⟨((But.ofBelow HW.out).alloc _).trans E.out.2, _, _, _, _, _, _, HE.out, rfl, E.out.1⟩
        · have HE : Hid (T.fol g.n rank small ids lo sm = T.fol g.n rank small (ids.drop (k + 1)) (min lo1 (rank y)) (min sm1 (small y))) := by
            rw [HF.out]; show Hid _; unfold Hid; simp only [T.fol, Int.toNat_natCast, if_pos hi, if_neg h0]
          clear hw1 hw2 HF
          go_wp2
          go_roundw
          case rel => exact ⟨k + 1, by omega, by go_num, _, _, rfl, rfl, (by unfold Hid; rw [min_if, min_if]; exact HE.out), HW.out.alloc HW.out.size _⟩
          case measure => simp [intOf]; omega
      · have HE : Hid (T.fol g.n rank small ids lo sm = T.fol g.n rank small (ids.drop (k + 1)) lo1 sm1) := by
          rw [HF.out]; show Hid _; unfold Hid; simp only [T.fol, if_neg hi]
        by_cases hneg : id < 0
        · have hge := wrap_neg hw1 hneg hn
          go_wp2
          go_roundw
          case rel => exact ⟨k + 1, by omega, by go_num, _, _, rfl, rfl, HE, HW⟩
          case measure => simp [intOf]; omega
        · have hge : (g.n : Int) ≤ id := by omega
          obtain ⟨y, rfl⟩ : ∃ y : Nat, id = y := ⟨id.toNat, by omega⟩
          have hge' : g.n ≤ y := by omega
          go_wp2
          go_roundw
          case rel => exact ⟨k + 1, by omega, by go_num, _, _, rfl, rfl, HE, HW⟩
          case measure => simp [intOf]; omega
    · have hkl' : k = l := by omega
      have HE : Hid (T.fol g.n rank small ids lo sm = (none, lo1, sm1)) := by
        rw [HF.out]; show Hid _; unfold Hid; rw [List.drop_eq_nil_of_le (by have := HO.out.ids.1; simp only at this; omega)]; rfl
      have E := hide (follow_end (x' := ⟨none, 0, 0, ⟨[], v, lo1, sm1⟩⟩) GR.out FMok.none rfl)
      have g1 := GR.out
      rw [← HLL.out ⟨a, l, c, ⟨ids, v, lo, sm⟩⟩] at g1
      have q0 := g1.fcell (A := fs) (C := []) rfl 0 (by omega)
      have q2 := g1.fcell (A := fs) (C := []) rfl 2 (by omega)
      have q3 := g1.fcell (A := fs) (C := []) rfl 3 (by omega)
      have qz := g1.ffz
      simp only [fcells, Nat.add_zero, List.getElem?_cons_zero, List.getElem?_cons_succ] at q0 q2 q3
      clear g1
      go_wp2
      refine bodyPost_ret (v := .tuple #[.int .i32 0, .bool false]) (by simp [results, Ybad.results15, go_sem]) rfl ⟨(But.ofBelow HW.out).trans E.out.2, _, _, _, _, _, _, HE.out, rfl, E.out.1⟩
end Go.Proofs.YbulkcawkDoor.D
