import Derived.Test.YbulkcawkDoorWalk
import Derived.Deep.OwnRows
namespace Go.Proofs.YbulkcawkDoor.D
open Go.RowKit

theorem info3 : (Ybad.prog.info? 3).map (fun i => (i.zero, i.size, i.bytes)) = some (some (.int .i64 0), 1, 8) := by kernel_rfl

/-- a row of ints filled so far -/
def Fill (b n : Nat) (f : Nat → Int) (k : Nat) (wr : World) : Prop :=
  wr.rowIs b 3 n (fun j => .int .i64 (if j < k then f j else 0))

theorem Fill.step {wr : World} {b n k : Nat} {f : Nat → Int} (h : Fill b n f k wr) : Fill b n f (k + 1) (wr.setCell ⟨b, k, none⟩ (.int .i64 (f k))) := by
  refine (World.rowIs.set h k (.int .i64 (f k))).congr ?_
  intro j hj
  by_cases e : j = k
  · subst e; simp
  · by_cases e2 : j < k
    · simp [e, e2, show j < k + 1 by omega]
    · simp [e, e2, show ¬ j < k + 1 by omega]

set_option maxRecDepth 100000 in
theorem targets_any (ta : Option Addr) (tn tc n : Nat) (f : Nat → Int) (w : World) (hn : 0 < n) (hn3 : n ≤ 300) (ht : tn ≤ 300) (hf : ∀ j, j < tn → 0 ≤ f j ∧ f j ≤ 65535) (h : IRow .u16 w ta tn f) :
    Calls Ybad.prog 8 #[.int .i64 (n : Int), .slice ta tn tc] w fun e w' => e = .returned (.slice (some ⟨w.heap.size, 0, none⟩) tn tn) ∧ Below w.heap.size w w' ∧ w'.rowIs w.heap.size 3 tn (fun j => .int .i64 (f j % (n : Int))) := by
  have hmk := run_make_row' (P := Ybad.prog) 29 3 (.int .i64 0) 8 Ybad.underlying29 info3 rfl .i64 .i64 tn (by omega) (by omega)
  have HI := hide h
  have HFF := hide hf
  clear h hf
  have H0 : Hid (Fill w.heap.size tn (fun j => f j % (n : Int)) 0 (w.alloc (.cells (madeCells #[.int .i64 0] tn) 3))) := by
    refine (World.rowIs_made w (.int .i64 0) tn 3).congr ?_
    intro j hj; simp
  have HB0 : Hid (Below w.heap.size w (w.alloc (.cells (madeCells #[.int .i64 0] tn) 3))) := (Below.refl _ _).alloc (Nat.le_refl _) _
  go_enter Ybad.func8, Ybad.ntmps8
  go_wp2
  go_loopw [13] (fun i wr => ∃ k : Nat, k ≤ tn ∧ i = .int .i64 k ∧ Hid (Fill w.heap.size tn (fun j => f j % (n : Int)) k wr) ∧ Hid (Below w.heap.size w wr)) (fun i _ => tn - (intOf i).toNat)
  case atStart => exact ⟨0, Nat.zero_le _, rfl, H0, HB0⟩
  case round =>
    obtain ⟨k, hk, rfl, HF, HB⟩ := hrel
    clear hmk H0 HB0
    by_cases hkt : k < tn
    · obtain ⟨b, off, rfl, hc⟩ := (HI.out.keep (Keep.below HB.out)) k hkt
      obtain ⟨h1, h2⟩ := HFF.out k hkt
      have rc := World.rowIs.cell HF.out hkt
      have rf := World.rowIs.frozen HF.out
      obtain ⟨x, hx⟩ : ∃ x : Nat, f k = x := ⟨(f k).toNat, by omega⟩
      have HE := hide (HF.out.step)
      have HM : Hid (f k % (n : Int) = ((x % n : Nat) : Int)) := by unfold Hid; rw [hx]; rfl
      try simp only at HE
      rw [HM.out] at HE
      rw [hx] at hc h1 h2
      clear hx HM
      go_wp2
      go_roundw
      case rel => exact ⟨k + 1, by omega, by go_num, HE, HB.out.setCell (Nat.le_refl _) _⟩
      case measure => simp [intOf]; omega
    · go_wp2
      go_ret
      obtain rfl : k = tn := by omega
      exact ⟨rfl, HB.out, (HF.out : World.rowIs _ _ _ _ _).congr (fun j hj => by simp [hj])⟩
end Go.Proofs.YbulkcawkDoor.D
