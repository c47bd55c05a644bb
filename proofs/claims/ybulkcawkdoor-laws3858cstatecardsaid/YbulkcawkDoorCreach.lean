import Derived.Test.YbulkcawkDoorBuild
namespace Go.Proofs.YbulkcawkDoor.D
open Go.RowKit

theorem info4 : (Ybad.prog.info? 4).map (fun i => (i.zero, i.size, i.bytes)) = some (some (.bool false), 1, 1) := by kernel_rfl

/-- breadth first, in memory -/
structure CR (w : World) (g : T.Gr) (z : Nat) (seen : Nat → Bool) (q : List Nat) (best : Int) (k : Nat) (qv : Value) (wr : World) : Prop where
  bel : Below w.heap.size w wr
  row : wr.rowIs w.heap.size 4 g.n (fun j => .bool (seen j))
  own : wr.ownsRow (w.heap.size + 1) 3 1 qv q.length (q.map fun v : Nat => Value.int .i64 (v : Int))
  bf : T.Bf g z seen q best
  dn : T.Done g q k
  kl : k ≤ q.length

theorem CR.qcell {w : World} {g : T.Gr} {z : Nat} {seen : Nat → Bool} {q : List Nat} {best : Int} {k b cap : Nat} {wr : World} (h : CR w g z seen q best k (.slice (some ⟨b, 0, none⟩) q.length cap) wr) (j : Nat) (hj : j < q.length) : wr.cell? ⟨b, j, none⟩ = some (.int .i64 (q.getD j 0 : Nat)) := by
  rw [h.own.cellAt j (by omega)]
  simp [hj]

/-- the round of an id that is not in the queue yet, ahead of the append -/
theorem CR.mark {w : World} {g : T.Gr} {z : Nat} {seen : Nat → Bool} {q : List Nat} {best : Int} {k : Nat} {qv : Value} {wr : World} (h : CR w g z seen q best k qv wr) (y : Nat) :
    Below w.heap.size w (wr.setCell ⟨w.heap.size, y, none⟩ (.bool true)) ∧ (wr.setCell ⟨w.heap.size, y, none⟩ (.bool true)).rowIs w.heap.size 4 g.n (fun j => .bool (if j = y then true else seen j)) ∧
      (wr.setCell ⟨w.heap.size, y, none⟩ (.bool true)).ownsRow (w.heap.size + 1) 3 1 qv q.length (q.map fun v : Nat => Value.int .i64 (v : Int)) := by
  refine ⟨h.bel.setCell (Nat.le_refl _) _, (h.row.set y (.bool true)).congr (fun j _ => by by_cases e : j = y <;> simp [e]), ownsRow_setCell_below h.own (a := ⟨w.heap.size, y, none⟩) (Nat.lt_succ_self _) _⟩

/-- .. and behind it -/
theorem CR.push {w : World} {g : T.Gr} {z : Nat} {seen : Nat → Bool} {q : List Nat} {best : Int} {k : Nat} {qv qv' : Value} {wr w2 : World} (h : CR w g z seen q best k qv wr) {u y : Nat} (hu : u ∈ q) (he : T.Edge g u y) (hs : seen y = false)
    (hbl : Below w.heap.size w w2) (hr2 : w2.rowIs w.heap.size 4 g.n (fun j => .bool (if j = y then true else seen j)))
    (hown : w2.ownsRow (w.heap.size + 1) 3 1 qv' (q.length + 1) ((q.map fun v : Nat => Value.int .i64 (v : Int)) ++ [.int .i64 (y : Int)])) :
    CR w g z (fun v => if v = y then true else seen v) (q ++ [y]) (if g.val y < best then g.val y else best) k qv' w2 :=
  { bel := hbl, row := hr2, own := by simpa using hown, bf := T.bf_add h.bf hu he hs, dn := T.done_add h.dn h.kl, kl := by have := h.kl; simp; omega }

/-- a node without edges is done with -/
theorem CR.dead {w : World} {g : T.Gr} {z : Nat} {seen : Nat → Bool} {q : List Nat} {best : Int} {k y : Nat} {qv : Value} {wr : World} (h : CR w g z seen q best k qv wr) (hy : q[k]? = some y) (hn : ∀ v, ¬ T.Edge g y v) : CR w g z seen q best (k + 1) qv wr :=
  { bel := h.bel, row := h.row, own := h.own, bf := h.bf, kl := (List.getElem?_eq_some_iff.1 hy).1, dn := fun i u hi hu v e => by
      by_cases ei : i = k
      · subst ei; rw [hy] at hu; cases hu; exact absurd e (hn v)
      · exact h.dn i u (by omega) hu v e }

/-- a node all of whose ids are in the queue is done with -/
theorem CR.whole {w : World} {g : T.Gr} {z : Nat} {seen : Nat → Bool} {q : List Nat} {best : Int} {k y l : Nat} {qv : Value} {wr : World} {f : Nat → Int} (h : CR w g z seen q best k qv wr) (hy : q[k]? = some y) (hi : g.ids y = (List.range l).map f) (ha : ∀ i, i < l → ∀ v : Nat, f i = v → v < g.n → v ∈ q) : CR w g z seen q best (k + 1) qv wr :=
  { bel := h.bel, row := h.row, own := h.own, bf := h.bf, kl := (List.getElem?_eq_some_iff.1 hy).1, dn := fun i u hi' hu v e => by
      by_cases ei : i = k
      · subst ei
        rw [hy] at hu
        cases hu
        have h1 := e.2.2
        rw [hi] at h1
        obtain ⟨j, hj, ej⟩ := List.mem_map.1 h1
        exact ha j (List.mem_range.1 hj) v ej e.2.1
      · exact h.dn i u (by omega) hu v e }

theorem CR.start {w : World} {g : T.Gr} {z : Nat} (hz : z < g.n) :
    CR w g z (fun v => decide (v = z)) [z] (g.val z) 0 (.slice (some ⟨w.heap.size + 1, 0, none⟩) 1 1) ((w.alloc (.cells ((madeCells #[.bool false] g.n).setIfInBounds z (.bool true)) 4)).alloc (.cells #[.int .i64 (z : Int)] 3)) := by
  have h1 : (w.alloc (.cells ((madeCells #[.bool false] g.n).setIfInBounds z (.bool true)) 4)).rowIs w.heap.size 4 g.n (fun j => .bool (decide (j = z))) := by
    refine ⟨_, Deep.blk_alloc_new _ _, by simp [size_madeCells], fun i hi => ?_⟩
    by_cases e : i = z
    · subst e; simp [size_madeCells, hi]
    · rw [Array.getElem?_setIfInBounds_ne (Ne.symm e)]; simp [madeCells, hi, Nat.mod_one, e]
  have hb : Below w.heap.size w (w.alloc (.cells ((madeCells #[.bool false] g.n).setIfInBounds z (.bool true)) 4)) := (Below.refl _ _).alloc (Nat.le_refl _) _
  have hs : (w.alloc (.cells ((madeCells #[.bool false] g.n).setIfInBounds z (.bool true)) 4)).heap.size = w.heap.size + 1 := by simp
  generalize w.alloc (.cells ((madeCells #[.bool false] g.n).setIfInBounds z (.bool true)) 4) = W at h1 hb hs ⊢
  have h2 := World.ownsRow_lit (base := w.heap.size + 1) (e := 3) (size := 1) W #[.int .i64 (z : Int)] 1 (by omega) (by unfold maxLen; omega) rfl
  rw [hs] at h2
  exact { bel := hb.alloc (by omega) _, row := h1.alloc _, own := h2, bf := T.bf_start hz, dn := fun i u hi => absurd hi (by omega), kl := Nat.zero_le _ }

set_option maxRecDepth 100000 in
set_option maxHeartbeats 3200000 in
theorem creach_any (av al ab : Option Addr) (n cv m cl mb cb : Nat) (vs : Nat → Int) (q : Lst) (bs : Nat → Bool) (z : Nat) (w : World) (hn : n ≤ 300) (hz : z < n) (hbig : ∀ i, i < n → i < m → q.l i ≤ 4096) (hV : IRow .i32 w av n vs) (hL : LRow w al m q) (hB : BRow w ab mb bs) (hg1 : w.cell? ⟨0, 1, none⟩ = some (.int .i32 2147483647)) :
    Calls Ybad.prog 9 #[.slice av n cv, .slice al m cl, .slice ab mb cb, .int .i64 (z : Int)] w fun e w' => ∃ best, e = .returned (.tuple #[.int .i32 best, .slice (some ⟨w.heap.size, 0, none⟩) n n]) ∧ Below w.heap.size w w' ∧ T.IsMin (grOf n vs m q bs mb) z best ∧
      ∃ seen : Nat → Bool, w'.rowIs w.heap.size 4 n (fun j => .bool (seen j)) ∧ ∀ v, v < n → (seen v = true ↔ T.Reach (grOf n vs m q bs mb) z v) := by
  obtain ⟨i3, hi, hz0, hz1, hz2⟩ := info_parts info3
  have hmk := run_make_row' (P := Ybad.prog) 24 4 (.bool false) 1 Ybad.underlying24 info4 rfl .i64 .i64 n (by omega) (by omega)
  have HV := hide hV
  have HL := hide hL
  have HBB := hide hB
  have HBG := hide hbig
  clear hV hL hB hbig
  obtain ⟨g, hgr⟩ : ∃ g, g = grOf n vs m q bs mb := ⟨_, rfl⟩
  rw [← hgr]
  have hgn : g.n = n := by rw [hgr]; rfl
  have HVal : Hid (∀ y, conV vs bs mb y = g.val y) := by rw [hgr]; exact fun _ => rfl
  have HHe : Hid (∀ y, g.here y = !absB bs mb y) := by rw [hgr]; exact fun _ => rfl
  have HId : Hid (∀ y, g.ids y = if y < m then (List.range (q.l y)).map (q.id y) else []) := by rw [hgr]; exact fun _ => rfl
  clear hgr
  have H0 := hide (CR.start (w := w) (g := g) (z := z) (by omega))
  rw [hgn] at H0
  have HB0 : Hid (Below w.heap.size w ((w.alloc (.cells ((madeCells #[.bool false] n).setIfInBounds z (.bool true)) 4)).alloc (.cells #[.int .i64 (z : Int)] 3))) := H0.out.bel
  have s0 := (World.rowIs_made w (.bool false) n 4).cell hz
  have s1 := (World.rowIs_made w (.bool false) n 4).frozen
  have HG1 := hide hg1
  clear hg1
  go_enter Ybad.func9, Ybad.ntmps9
  go_wp2_with (go_at_call 13; refine (contrib_any av ab n cv mb cb vs bs z _ _ rfl hz (HV.out.keep (Keep.below HB0.out)) (HBB.out.keep (Keep.below HB0.out)) ((HB0.out.cell (World.block_lt_of_cell? _ _ HG1.out)).trans HG1.out)).mono ?_; rintro e w' ⟨rfl, hw'⟩; rw [hw']; clear hw'; rw [HVal.out])
  clear s0 s1 hmk HB0
  generalize ((w.alloc (.cells ((madeCells #[.bool false] n).setIfInBounds z (.bool true)) 4)).alloc (.cells #[.int .i64 (z : Int)] 3)) = w0 at H0 ⊢
  go_loopw [12, 13, 14] (fun qv b i wr => ∃ k : Nat, i = .int .i64 k ∧ ∃ seen Q best, b = .int .i32 best ∧ Hid (CR w g z seen Q best k qv wr)) (fun _ _ i _ => n - (intOf i).toNat)
  case atStart => exact ⟨0, rfl, _, _, _, rfl, H0⟩
  case round =>
    obtain ⟨k, rfl, seen, Q, best, rfl, HC⟩ := hrel
    clear H0
    have hkl := HC.out.kl
    have hQn : Q.length ≤ n := by have := T.bf_len HC.out.bf; omega
    have hQ0 : 0 < Q.length := List.length_pos_of_mem HC.out.bf.root
    obtain ⟨qb, qc, rfl⟩ := own_form HC.out.own hQ0
    by_cases hk : k < Q.length
    · obtain ⟨y, hy⟩ : ∃ y, y = Q.getD k 0 := ⟨_, rfl⟩
      have hc0 := HC.out.qcell k hk
      rw [← hy] at hc0
      have HY : Hid (Q[k]? = some y) := by unfold Hid; rw [hy]; simp [hk]
      have hyn : y < n := by have := (HC.out.bf.lt y (List.mem_of_getElem? HY.out)).1; omega
      clear hy
      have HKB := hide (HBB.out.keep (Keep.below HC.out.bel))
      obtain ⟨pB, hpB⟩ : ∃ pB, pB = absB bs mb y := ⟨_, rfl⟩
      have HP := hide hpB
      clear hpB
      cases pB with
      | true =>
        have HE := hide (HC.out.dead HY.out (fun v e => by have := e.1; rw [HHe.out, ← HP.out] at this; simp at this))
        go_wp2_with (go_at_call 10; refine (absent_any ab mb cb bs y _ _ rfl HKB.out).mono ?_; rintro e w' ⟨rfl, hw'⟩; rw [hw']; clear hw'; rw [← HP.out])
        go_roundw
        case rel => exact ⟨k + 1, by go_num, _, _, _, rfl, HE⟩
        case measure => simp [intOf]; omega
      | false =>
        by_cases hym : y < m
        · obtain ⟨⟨bl, ol, rfl, hcl⟩, hnil, hll, hrow, hidb⟩ := (HL.out.keep (Keep.below HC.out.bel)) y hym
          have hl4 := HBG.out y hyn hym
          have hHe : g.here y = true := by rw [HHe.out, ← HP.out]; rfl
          have hIds : g.ids y = (List.range (q.l y)).map (q.id y) := by rw [HId.out, if_pos hym]
          have HX := hide (And.intro hHe hIds)
          have HD := hide hidb
          clear hHe hIds hidb hnil hll
          obtain ⟨ya, hya⟩ : ∃ ya, ya = q.a y := ⟨_, rfl⟩
          obtain ⟨yl, hyl⟩ : ∃ yl, yl = q.l y := ⟨_, rfl⟩
          have HLR : Hid (IRow .i32 w ya yl (q.id y)) := by rw [hya, hyl]; exact (HL.out y hym).2.2.2.1
          rw [← hya, ← hyl] at hcl
          rw [← hyl] at hl4 HX HD
          clear hrow hya hyl
          have hmy : ¬ m ≤ y := by omega
          go_wp2_with (go_at_call 10; refine (absent_any ab mb cb bs y _ _ rfl HKB.out).mono ?_; rintro e w' ⟨rfl, hw'⟩; rw [hw']; clear hw'; rw [← HP.out])
          go_loopw [12, 13, 56] (fun qv b i wr => ∃ j : Nat, j ≤ yl ∧ i = .int .i64 j ∧ ∃ seen Q best, b = .int .i32 best ∧ Hid (CR w g z seen Q best k qv wr) ∧ Hid (Q[k]? = some y) ∧ Hid (∀ i, i < j → ∀ v : Nat, q.id y i = v → v < g.n → v ∈ Q)) (fun _ _ i _ => yl - (intOf i).toNat)
          case atStart => exact ⟨0, Nat.zero_le _, rfl, _, _, _, rfl, HC, HY, fun i hi => absurd hi (by omega)⟩
          case round =>
            obtain ⟨j, hj, rfl, seen1, Q1, best1, rfl, HC1, HY1, HA1⟩ := hrel
            clear HC HKB hk HY hkl hQn hQ0 hcl hc0
            by_cases hjl : j < yl
            · obtain ⟨b, off, rfl, hc⟩ := (HLR.out.keep (Keep.below HC1.out.bel)) j hjl
              obtain ⟨hw1, hw2⟩ := HD.out j hjl
              obtain ⟨id, hid⟩ : ∃ id, id = q.id y j := ⟨_, rfl⟩
              rw [← hid] at hc hw1 hw2
              have HI := hide hid
              clear hid
              have HNX : Hid ((∀ v : Nat, id = v → v < g.n → v ∈ Q1) → ∀ i, i < j + 1 → ∀ v : Nat, q.id y i = v → v < g.n → v ∈ Q1) := by
                intro h1 i hi v ev hv
                by_cases e : i = j
                · subst e; exact h1 v (by rw [HI.out]; exact ev) hv
                · exact HA1.out i (by omega) v ev hv
              by_cases hneg : id < 0
              · have HAN := hide (HNX.out (fun v e _ => by omega))
                go_wp2
                go_roundw
                case rel => exact ⟨j + 1, by omega, by go_num, _, _, _, rfl, HC1, HY1, HAN⟩
                case measure => simp [intOf]; omega
              · obtain ⟨x, hx⟩ : ∃ x : Nat, id = x := ⟨id.toNat, by omega⟩
                subst hx
                by_cases hge : n ≤ x
                · have HAN := hide (HNX.out (fun v e hv => by omega))
                  go_wp2
                  go_roundw
                  case rel => exact ⟨j + 1, by omega, by go_num, _, _, _, rfl, HC1, HY1, HAN⟩
                  case measure => simp [intOf]; omega
                · have hxn : x < n := by omega
                  have rc := HC1.out.row.cell (i := x) (by omega)
                  have rf := HC1.out.row.frozen
                  cases hs : seen1 x with
                  | true =>
                    rw [hs] at rc
                    have HAN := hide (HNX.out (fun v e hv => by
                      have ex : x = v := by omega
                      rw [← ex] at hv ⊢
                      exact (HC1.out.bf.mem x hv).1 hs))
                    go_wp2
                    go_roundw
                    case rel => exact ⟨j + 1, by omega, by go_num, _, _, _, rfl, HC1, HY1, HAN⟩
                    case measure => simp [intOf]; omega
                  | false =>
                    rw [hs] at rc
                    have HMK := hide (HC1.out.mark x)
                    have hQ1 : Q1.length ≤ n := by have := T.bf_len HC1.out.bf; omega
                    obtain ⟨qa1, qc1, rfl⟩ := own_shape HC1.out.own
                    have hsz := HC1.out.row.lt
                    have hssz : (wr.setCell ⟨w.heap.size, x, none⟩ (.bool true)).heap.size = wr.heap.size := by simp [World.setCell]
                    have hon := one_int (wr.setCell ⟨w.heap.size, x, none⟩ (.bool true)) .i64 3 (x : Int)
                    rw [hssz] at hon
                    have HON := hide hon
                    have HSZ := hide hssz
                    clear HNX hon hssz
                    go_wp2_with (at_builtin; refine wpList_append_own _ rfl (.tmp 79) (.tmp 82) 29 rfl (w.heap.size + 1) 3 i3 (.int .i64 0) 1 8 Ybad.underlying29 hi hz0 hz1 hz2 rfl (by decide) _ _ _ rfl (HMK.out.2.2.alloc _) ⟨wr.heap.size, 0, none⟩ 1 1 [.int .i64 (x : Int)] rfl rfl HON.out (one_cell _ _) (by unfold maxLen; omega) (by omega) (by simp; omega) ?_)
                    intro v' w2 hown hgrow _
                    obtain ⟨a', c', rfl⟩ := own_shape hown
                    have hrow : ∀ i, (Value.slice qa1 Q1.length qc1).ownBlock = some i → w.heap.size + 1 ≤ i := fun i h => (HC1.out.own.lt i h).1
                    have hbl : Below w.heap.size w w2 := (HMK.out.1.alloc (by rw [HSZ.out]; omega) _).grown hgrow (by have := HSZ.out; simp; omega) (fun i h => by have := hrow i h; omega)
                    have hr2 := (HMK.out.2.1.alloc (.cells #[.int .i64 (x : Int)] 3)).of_block (hgrow.block w.heap.size (HMK.out.2.1.alloc _).lt (fun e => by have := hrow _ e.symm; omega))
                    have he : T.Edge g y x := ⟨HX.out.1, by omega, by rw [HX.out.2]; exact List.mem_map.2 ⟨j, List.mem_range.2 hjl, HI.out.symm⟩⟩
                    have HPU := hide (HC1.out.push (List.mem_of_getElem? HY1.out) he hs hbl hr2 hown)
                    have HBL := hide hbl
                    have HAN : Hid (∀ i, i < j + 1 → ∀ v : Nat, q.id y i = v → v < g.n → v ∈ Q1 ++ [x]) := by
                      intro i hi' v ev hv
                      by_cases e : i = j
                      · subst e
                        have ex : x = v := by have := HI.out; omega
                        rw [ex]; simp
                      · exact List.mem_append.2 (Or.inl (HA1.out i (by omega) v ev hv))
                    have HYN : Hid ((Q1 ++ [x])[k]? = some y) := by
                      unfold Hid
                      rw [List.getElem?_append_left (List.getElem?_eq_some_iff.1 HY1.out).1]; exact HY1.out
                    clear hown hgrow hrow hbl hr2 he HMK HON HSZ HC1 HY1 HA1 rc rf hc
                    by_cases hlt : g.val x < best1
                    · simp only [if_pos hlt] at HPU
                      go_wp2_with (go_at_call 13; refine (contrib_any av ab n cv mb cb vs bs x _ _ rfl hxn (HV.out.keep (Keep.below HBL.out)) (HBB.out.keep (Keep.below HBL.out)) ((HBL.out.cell (World.block_lt_of_cell? _ _ HG1.out)).trans HG1.out)).mono ?_; rintro e w' ⟨rfl, hw'⟩; rw [hw']; clear hw'; rw [HVal.out])
                      go_roundw
                      case rel => exact ⟨j + 1, by omega, by go_num, _, _, _, rfl, HPU, HYN, HAN⟩
                      case measure => simp [intOf]; omega
                    · simp only [if_neg hlt] at HPU
                      go_wp2_with (go_at_call 13; refine (contrib_any av ab n cv mb cb vs bs x _ _ rfl hxn (HV.out.keep (Keep.below HBL.out)) (HBB.out.keep (Keep.below HBL.out)) ((HBL.out.cell (World.block_lt_of_cell? _ _ HG1.out)).trans HG1.out)).mono ?_; rintro e w' ⟨rfl, hw'⟩; rw [hw']; clear hw'; rw [HVal.out])
                      go_roundw
                      case rel => exact ⟨j + 1, by omega, by go_num, _, _, _, rfl, HPU, HYN, HAN⟩
                      case measure => simp [intOf]; omega
            · obtain rfl : j = yl := by omega
              have HE := hide (HC1.out.whole HY1.out HX.out.2 HA1.out)
              have hkk : k < n := by have h1 := T.bf_len HC1.out.bf; have h2 := (List.getElem?_eq_some_iff.1 HY1.out).1; omega
              go_wp2
              go_roundw
              case rel => exact ⟨k + 1, by go_num, _, _, _, rfl, HE⟩
              case measure => simp [intOf]; omega
        · have HE := hide (HC.out.dead HY.out (fun v e => by have := e.2.2; rw [HId.out, if_neg hym] at this; cases this))
          go_wp2_with (go_at_call 10; refine (absent_any ab mb cb bs y _ _ rfl HKB.out).mono ?_; rintro e w' ⟨rfl, hw'⟩; rw [hw']; clear hw'; rw [← HP.out])
          go_roundw
          case rel => exact ⟨k + 1, by go_num, _, _, _, rfl, HE⟩
          case measure => simp [intOf]; omega
    · obtain rfl : k = Q.length := by omega
      have HE := hide (T.bf_end HC.out.bf HC.out.dn)
      go_wp2
      refine bodyPost_ret (v := .tuple #[.int .i32 best, .slice (some ⟨w.heap.size, 0, none⟩) n n]) (by simp [results, Ybad.results9, go_sem]) rfl ⟨best, rfl, HC.out.bel, HE.out.1, seen, ?_, fun v hv => HE.out.2 v (by omega)⟩
      have := HC.out.row
      rw [hgn] at this
      exact this
end Go.Proofs.YbulkcawkDoor.D
