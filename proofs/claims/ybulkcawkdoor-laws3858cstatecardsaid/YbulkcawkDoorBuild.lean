import Derived.Test.YbulkcawkDoorBox
namespace Go.Proofs.YbulkcawkDoor.D
open Go.RowKit

theorem own_took {wr w1 : World} {a : Option Addr} {l c : Nat} {ids : List Int} (h : w1.ownsRow wr.heap.size 21 1 (.slice a l c) l (ids.map (Value.int .i32))) (hb : Below wr.heap.size wr w1) (hl : l ≤ 4096) : Took wr w1 a l c ids := by
  have hlen : ids.length = l := by have := h.1; simpa using this
  rcases h.2 with ⟨e, e0⟩ | ⟨g, cap, cur, e, hB, hg, hn, hc, hs, ht⟩
  · cases e
    exact { bel := hb, ids := ⟨hlen, fun j hj => absurd hj (by omega)⟩, nil := fun _ => rfl, cap := Nat.le_refl _, at' := fun b o e => (by cases e), big := hl }
  · cases e
    have hlt : g < w1.heap.size := (Array.getElem?_eq_some_iff.1 hg).1
    refine { bel := hb, ids := ⟨hlen, fun j hj => ⟨g, 0, rfl, hlt, ?_⟩⟩, nil := fun e => (by cases e), cap := hn, at' := fun b o e => by cases e; exact ⟨hB, hlt⟩, big := hl }
    rw [Nat.zero_add, h.cellAt j (by omega)]
    simp [hlen, hj]

theorem add_off (b o j : Nat) : (⟨b, o, none⟩ : Addr).add j = ⟨b, o + j, none⟩ := by
  simp only [Addr.add]; split <;> simp_all

theorem news_cells {w w' : World} {ad : Addr} {l : Nat} {f : Nat → Int} (h : IRow .i32 w (some ad) l f) (hk : ∀ a : Addr, a.block < w.heap.size → w'.cell? a = w.cell? a) : ∀ (j : Nat) (u : Value), (((List.range l).map f).map (Value.int .i32))[j]? = some u → w'.cell? (ad.add j) = some u := by
  intro j u hj
  have hjl : j < l := by
    have := (List.getElem?_eq_some_iff.1 hj).1
    simpa using this
  obtain ⟨b, o, e, hc⟩ := h j hjl
  cases e
  rw [add_off, hk _ (World.block_lt_of_cell? _ _ hc), hc]
  simp [hjl] at hj ⊢
  exact hj

theorem took_none {wr : World} : Took wr wr none 0 0 [] :=
  { bel := Below.refl _ _, ids := ⟨rfl, fun j hj => absurd hj (by omega)⟩, nil := fun _ => rfl, cap := Nat.le_refl _, at' := fun b o e => (by cases e), big := by omega }

set_option maxRecDepth 100000 in
set_option maxHeartbeats 1600000 in
theorem build_any (av al ab : Option Addr) (n cv m cl mb cb : Nat) (vs : Nat → Int) (q : Lst) (bs : Nat → Bool) (w : World) (hn : n ≤ 300) (hbig : ∀ i, i < n → i < m → q.l i ≤ 4096) (hV : IRow .i32 w av n vs) (hL : LRow w al m q) (hB : BRow w ab mb bs) (hg0 : w.cell? ⟨0, 0, none⟩ = some (.int .i32 2147483647)) (hg1 : w.cell? ⟨0, 1, none⟩ = some (.int .i32 2147483647)) :
    Calls Ybad.prog 6 #[.slice av n cv, .slice al m cl, .slice ab mb cb] w fun e w' => ∃ p : GP, w.heap.size ≤ p.gb ∧ w.heap.size ≤ p.nb ∧ e = .returned (.pointer (some ⟨p.gb, 0, none⟩)) ∧ Below w.heap.size w w' ∧
      GM w' p (grOf n vs m q bs mb) (rank0 (grOf n vs m q bs mb)) (grOf n vs m q bs mb).val 0 [] [] (.slice none 0 0) (.slice none 0 0) := by
  obtain ⟨i21, hi, hz0, hz1, hz2⟩ := info_parts info21
  have qN : ∀ (w : World) (a : Option Addr) (n c n' c' : Nat), (binOp .neq 22 (.slice a n c) (.slice none n' c')).run Ybad.prog w = .ok (.bool (!a.isNone)) w := fun w a n c n' c' => run_neq_slice_nil_any w _ _ a n c n' c' Ybad.underlying22
  have hmk := run_make_row' (P := Ybad.prog) 46 20 .nilIface 16 Ybad.underlying46 info20 rfl .i64 .i64 n (by omega) (by omega)
  have hid : ∀ i, i < n → ∀ x, x ∈ (grOf n vs m q bs mb).ids i → -2147483648 ≤ x ∧ x ≤ 2147483647 := by
    intro i hi x hx
    simp only [grOf] at hx
    by_cases e : i < m
    · rw [if_pos e] at hx
      obtain ⟨j, hj, rfl⟩ := List.mem_map.1 hx
      exact (hL i e).2.2.2.2 j (List.mem_range.1 hj)
    · rw [if_neg e] at hx; cases hx
  have H0 : Hid (BM w (grOf n vs m q bs mb) ⟨0, 0, 0, 0, fun _ => 0, fun _ => none, fun _ => 0, fun _ => 0⟩ 0 (w.alloc (.cells (madeCells #[.nilIface] n) 20))) := by
    refine { bel := (Below.refl _ _).alloc (Nat.le_refl _) _, row := (World.rowIs_made w .nilIface n 20).congr (fun j _ => by simp [grK]), ms := ?_, up := fun i _ h => by simp [grK] at h }
    exact { mlt := fun i _ h => by simp [grK] at h, mval := fun i _ h => by simp [grK] at h, mlis := fun i _ h => by simp [grK] at h, mids := fun i _ h => by simp [grK] at h, mlb := fun i _ h => by simp [grK] at h, big := fun _ _ => by show 0 ≤ 4096; omega, idw := hid }
  have HV := hide hV
  have HL := hide hL
  have HBB := hide hB
  have HBG := hide hbig
  clear hV hL hB hbig hid
  generalize hgr : grOf n vs m q bs mb = g at H0 ⊢
  have HGR := hide hgr
  clear hgr
  have hgn : g.n = n := by rw [← HGR.out]; rfl
  go_enter Ybad.func6, Ybad.ntmps6
  go_wp2
  go_loopw [9] (fun i wr => ∃ k : Nat, k ≤ n ∧ i = .int .i64 k ∧ ∃ p, Hid (BM w g p k wr)) (fun i _ => n - (intOf i).toNat)
  case atStart => exact ⟨0, Nat.zero_le _, rfl, _, H0⟩
  case round =>
    obtain ⟨k, hk, rfl, p, HK⟩ := hrel
    clear H0 hmk
    have HKB := hide (HBB.out.keep (Keep.below HK.out.bel))
    by_cases hkn : k < n
    · obtain ⟨bv, ov, rfl, hcv⟩ := (HV.out.keep (Keep.below HK.out.bel)) k hkn
      obtain ⟨pB, hpB⟩ : ∃ pB, pB = absB bs mb k := ⟨_, rfl⟩
      have HP := hide hpB
      clear hpB
      cases pB with
      | true =>
        have HE := hide (HK.out.skip (by rw [← HGR.out]; simp [grOf, ← HP.out]))
        go_wp2_with (go_at_call 10; refine (absent_any ab mb cb bs k _ _ rfl HKB.out).mono ?_; rintro e w' ⟨rfl, rfl⟩; rw [← HP.out])
        go_roundw
        case rel => exact ⟨k + 1, by omega, by go_num, p, HE⟩
        case measure => simp [intOf]; omega
      | false =>
        have hh : g.here k = true := by rw [← HGR.out]; simp [grOf, ← HP.out]
        have hvk : g.val k = vs k := by rw [← HGR.out]; simp [grOf, conV, ← HP.out]
        rw [← hvk] at hcv
        have HH := hide hh
        have HVK := hide hvk
        clear hh hvk
        by_cases hkm : k < m
        · obtain ⟨⟨bl, ol, rfl, hcl⟩, hnil, hll, hrow, hidb⟩ := (HL.out.keep (Keep.below HK.out.bel)) k hkm
          have hid4 := HBG.out k hkn hkm
          have HN := hide hnil
          have HR := hide hrow
          clear hnil hrow hidb hll
          obtain ⟨sa, hsa⟩ : ∃ sa, sa = q.a k := ⟨_, rfl⟩
          rw [← hsa] at hcl HN HR
          clear hsa
          cases sa with
          | none =>
            have hl0 := (HN.out rfl).1
            have HT : Hid (g.ids k = []) := by rw [← HGR.out]; unfold Hid; simp [grOf, hkm, hl0]
            have E := HK.out.send HH.out (by omega) (w1 := wr) (a := none) (l := 0) (c := 0) (by rw [HT.out]; exact took_none)
            have HE := hide E
            clear E hl0
            have t0 : (wr.alloc (.cells #[.int .i32 (g.val k), .slice none 0 0] 44)).cell? ⟨w.heap.size, k, none⟩ = _ := (HK.out.row.alloc _).cell (by omega : k < g.n)
            have t1 := (HK.out.row.alloc (.cells #[.int .i32 (g.val k), .slice none 0 0] 44)).frozen
            go_wp2_with (go_at_call 10; refine (absent_any ab mb cb bs k _ _ rfl HKB.out).mono ?_; rintro e w' ⟨rfl, rfl⟩; rw [← HP.out])
            go_roundw
            case rel => exact ⟨k + 1, by omega, by go_num, _, HE⟩
            case measure => simp [intOf]; omega
          | some ad =>
            have HT : Hid (g.ids k = (List.range (q.l k)).map (q.id k)) := by rw [← HGR.out]; unfold Hid; simp [grOf, hkm]
            have hcl0 : (wr.alloc (.cells #[] 21)).cell? ⟨bl, ol + k, none⟩ = some (.slice (some ad) (q.l k) (q.c k)) := (World.cell?_alloc_lt _ _ _ (World.block_lt_of_cell? _ _ hcl)).trans hcl
            have HO : Hid ((wr.alloc (.cells #[] 21)).ownsRow wr.heap.size 21 1 (.slice (some ⟨wr.heap.size, 0, none⟩) 0 0) 0 []) := World.ownsRow_lit wr #[] 0 (Nat.le_refl _) (by unfold maxLen; omega) rfl
            have HNW := hide (news_cells (w' := wr.alloc (.cells #[] 21)) HR.out (fun a h => (World.cell?_alloc_lt _ _ _ h)))
            go_wp2_with (first | (go_at_call 10; refine (absent_any ab mb cb bs k _ _ rfl HKB.out).mono ?_; rintro e w' ⟨rfl, hw'⟩; rw [hw']; clear hw'; rw [← HP.out]) | (at_builtin; refine wpList_append_own _ rfl (.tmp 34) (.tmp 38) 22 rfl wr.heap.size 21 i21 (.int .i32 0) 1 4 Ybad.underlying22 hi hz0 hz1 hz2 rfl (by decide) _ _ _ rfl HO.out ad (q.l k) (q.c k) (((List.range (q.l k)).map (q.id k)).map (Value.int .i32)) rfl (by simp) HNW.out (by intro u hu; obtain ⟨z, _, rfl⟩ := List.mem_map.1 hu; rfl) (by unfold maxLen; omega) (by omega) (by simp) ?_))
            intro v' w1 hown hgrow _
            obtain ⟨a', c', rfl⟩ := own_shape hown
            rw [← List.map_map] at hown
            have hbw : Below wr.heap.size wr w1 := ((Below.refl _ _).alloc (Nat.le_refl _) _).grown hgrow (by simp) (fun k h => by cases h; exact Nat.le_refl _)
            have E := HK.out.send HH.out (by omega) (w1 := w1) (a := a') (l := q.l k) (c := c') (by rw [HT.out]; exact own_took hown hbw hid4)
            have HE := hide E
            have HBW := hide hbw
            have hcv1 := (hbw.cell (World.block_lt_of_cell? _ _ hcv)).trans hcv
            have hrow1 := HK.out.row.of_block (hbw.block _ HK.out.row.lt)
            have t0 : (w1.alloc (.cells #[.int .i32 (g.val k), .slice a' (q.l k) c'] 44)).cell? ⟨w.heap.size, k, none⟩ = _ := (hrow1.alloc _).cell (by omega : k < g.n)
            have t1 := (hrow1.alloc (.cells #[.int .i32 (g.val k), .slice a' (q.l k) c'] 44)).frozen
            have HQ1 := hide hrow1
            clear E hbw hown hgrow hrow1 HO HNW hcl hcl0 hcv
            go_wp2
            go_roundw
            case rel => exact ⟨k + 1, by omega, by go_num, _, HE⟩
            case measure => simp [intOf]; omega
        · have HT : Hid (g.ids k = []) := by rw [← HGR.out]; unfold Hid; simp [grOf, hkm]
          have E := HK.out.send HH.out (by omega) (w1 := wr) (a := none) (l := 0) (c := 0) (by rw [HT.out]; exact took_none)
          have HE := hide E
          clear E
          have t0 : (wr.alloc (.cells #[.int .i32 (g.val k), .slice none 0 0] 44)).cell? ⟨w.heap.size, k, none⟩ = _ := (HK.out.row.alloc _).cell (by omega : k < g.n)
          have t1 := (HK.out.row.alloc (.cells #[.int .i32 (g.val k), .slice none 0 0] 44)).frozen
          go_wp2_with (go_at_call 10; refine (absent_any ab mb cb bs k _ _ rfl HKB.out).mono ?_; rintro e w' ⟨rfl, rfl⟩; rw [← HP.out])
          go_roundw
          case rel => exact ⟨k + 1, by omega, by go_num, _, HE⟩
          case measure => simp [intOf]; omega
    · obtain rfl : k = n := by omega
      have hsame : ∀ j, j < g.n → (grK g k).here j = g.here j := fun j hj => by simp [grK, show j < k by omega]
      have hval : ∀ i, i < g.n → g.here i = false → g.val i = T.MX := fun i hi hh => by
        rw [← HGR.out] at hh ⊢
        simp only [grOf, Bool.not_eq_false'] at hh ⊢
        simp [conV, hh]
      have hM : Msgs wr g p wr.heap.size := { mlt := fun i hi hh => HK.out.ms.mlt i hi (by rw [hsame i hi]; exact hh), mval := fun i hi hh => HK.out.ms.mval i hi (by rw [hsame i hi]; exact hh), mlis := fun i hi hh => HK.out.ms.mlis i hi (by rw [hsame i hi]; exact hh), mids := fun i hi hh => HK.out.ms.mids i hi (by rw [hsame i hi]; exact hh), mlb := fun i hi hh => HK.out.ms.mlb i hi (by rw [hsame i hi]; exact hh), big := HK.out.ms.big, idw := HK.out.ms.idw }
      have hI : Inbox wr (some ⟨w.heap.size, 0, none⟩) g p := fun j hj => ⟨w.heap.size, 0, rfl, by rw [Nat.zero_add, HK.out.row.cell hj, hsame j hj]⟩
      have E := new_any (some ⟨w.heap.size, 0, none⟩) k g p wr (by omega) hM hI ((HK.out.bel.cell (World.block_lt_of_cell? _ _ hg0)).trans hg0) ((HK.out.bel.cell (World.block_lt_of_cell? _ _ hg1)).trans hg1) hval
      rw [hgn] at E
      have HE := hide E
      clear E hM hI hval hsame hgn
      go_wp2_with (go_at_call 11; refine HE.out.mono ?_; rintro e w' ⟨p', _, _, _, _, hp1, hp2, rfl, hbl, hGM⟩)
      go_ret
      exact ⟨p', Nat.le_trans HK.out.bel.size hp1, Nat.le_trans HK.out.bel.size hp2, rfl, HK.out.bel.trans (Below.mono hbl HK.out.bel.size), hGM⟩
end Go.Proofs.YbulkcawkDoor.D
