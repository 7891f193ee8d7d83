/-
  FnTagOk, the walk of NodeInfo at an empty file's node. No condition.
-/
import Derived.Test.YtnclklfhjbkjhaaGreatDoorNode
namespace Go.Proofs.YtnclklfhjbkjhaaGreatDoor.Walk
open Go.RowKit

theorem load94 (a : Addr) (w : World) (h : w.cell? a = some (.int .i64 0)) : (loadVar 94 a).run Tryz.prog w = .ok (.int .i64 0) w := by
  simp [loadVar, isAgg, underlying, Tryz.underlying94, h, Result.andThen]
theorem mStart0 (R : Nat) (w : World) : (Go.method 425 69 (.pointer (some ⟨R, 0, none⟩)) "Start").run Tryz.prog w = (do let v ← loadVar 94 ⟨R, 0, none⟩; pure ((67 : Nat), v) : Sem (FuncId × Value)).run Tryz.prog w := by kernel_rfl
theorem mEnd0 (R : Nat) (w : World) : (Go.method 425 69 (.pointer (some ⟨R, 0, none⟩)) "End").run Tryz.prog w = (do let v ← loadVar 94 ⟨R, 0, none⟩; pure ((66 : Nat), v) : Sem (FuncId × Value)).run Tryz.prog w := by kernel_rfl
theorem mStart (R : Nat) (w : World) (h : w.cell? ⟨R, 0, none⟩ = some (.int .i64 0)) : (Go.method 425 69 (.pointer (some ⟨R, 0, none⟩)) "Start").run Tryz.prog w = .ok (67, .int .i64 0) w := by
  rw [mStart0]
  simp only [Sem.run_bind, load94 _ _ h, Result.andThen, Sem.run_pure]
theorem mEnd (R : Nat) (w : World) (h : w.cell? ⟨R, 0, none⟩ = some (.int .i64 0)) : (Go.method 425 69 (.pointer (some ⟨R, 0, none⟩)) "End").run Tryz.prog w = .ok (66, .int .i64 0) w := by
  rw [mEnd0]
  simp only [Sem.run_bind, load94 _ _ h, Result.andThen, Sem.run_pure]

theorem tokStart (x : Int) (w : World) : Calls Tryz.prog 67 #[.int .i64 x] w fun e w' => e = .returned (.int .i64 x) ∧ w = w' := by
  go_enter Tryz.func67, Tryz.ntmps67
  go_wp2
  go_ret
  exact ⟨rfl, rfl⟩
theorem tokEnd (x : Int) (w : World) : Calls Tryz.prog 66 #[.int .i64 x] w fun e w' => e = .returned (.int .i64 x) ∧ w = w' := by
  go_enter Tryz.func66, Tryz.ntmps66
  go_wp2
  go_ret
  exact ⟨rfl, rfl⟩

set_option maxHeartbeats 3200000 in
set_option maxRecDepth 100000 in
theorem start_any (F : Nat) (w : World) (h : FileOk w F) : Calls Tryz.prog 48 #[.pointer (some ⟨F, 0, none⟩)] w fun e w' => e = .returned (.int .i64 0) ∧ w = w' := by
  obtain ⟨C, R, i, g, cap, D, L, h1, h2, h3, h4⟩ := h
  have c1 : w.cell? ⟨F, 0, none⟩ = some (.slice (some ⟨C, 0, none⟩) 1 1) := h1.cell 0
  have c2 : w.cell? ⟨C, 0, none⟩ = some (.iface 69 (.pointer (some ⟨R, 0, none⟩))) := h2.cell 0
  have hm := mStart R w (h3.cell 0)
  clear h1 h2 h3 h4
  go_enter Tryz.func48, Tryz.ntmps48
  go_wp2
  go_ret
  exact ⟨rfl, rfl⟩

set_option maxHeartbeats 3200000 in
set_option maxRecDepth 100000 in
theorem end_any (F : Nat) (w : World) (h : FileOk w F) : Calls Tryz.prog 46 #[.pointer (some ⟨F, 0, none⟩)] w fun e w' => e = .returned (.int .i64 0) ∧ ∃ n, w' = w.drewN n := by
  obtain ⟨C, R, i, g, cap, D, L, h1, h2, h3, h4⟩ := h
  have c1 : w.cell? ⟨F, 0, none⟩ = some (.slice (some ⟨C, 0, none⟩) 1 1) := h1.cell 0
  have c2 : w.cell? ⟨C, 0, none⟩ = some (.iface 69 (.pointer (some ⟨R, 0, none⟩))) := h2.cell 0
  have hm : ∀ n, (Go.method 425 69 (.pointer (some ⟨R, 0, none⟩)) "End").run Tryz.prog (w.drewN n) = .ok (66, .int .i64 0) (w.drewN n) := fun n => mEnd R (w.drewN n) (h3.cell 0)
  clear h1 h2 h3 h4
  go_enter Tryz.func46, Tryz.ntmps46
  go_wp2_with fail
  go_quiet ((go_at_call 66; exact Calls.quiet_of_same ((tokEnd _ _).mono fun _ _ h => ⟨h.1, h.2.symm⟩)))
  go_wp2
  go_ret
  exact ⟨rfl, _, rfl⟩

/-- What NodeInfo gives. -/
def span (i : Nat) : Value := .agg #[.pointer (some ⟨i, 0, none⟩), .int .i64 0, .int .i64 0]

set_option maxHeartbeats 3200000 in
set_option maxRecDepth 100000 in
theorem nodeInfo20 (i g cap : Nat) (w : World) (h4 : w.cell? ⟨i, 4, none⟩ = some (.slice (some ⟨g, 0, none⟩) 1 cap)) (hi : i < w.heap.size) :
    Calls Tryz.prog 20 #[.pointer (some ⟨i, 0, none⟩), .int .i64 0, .int .i64 0] w fun e w' => e = .returned (span i) ∧ Below w.heap.size w w' := by
  have hn : (w.alloc (.cells #[.pointer none, .int .i64 0, .int .i64 0] 48)).cell? ⟨i, 4, none⟩ = some (.slice (some ⟨g, 0, none⟩) 1 cap) := by
    rw [World.cell?_alloc_lt _ _ _ (by exact hi)]; exact h4
  go_enter Tryz.func20, Tryz.ntmps20
  go_wp2
  go_returns
  exact ⟨rfl, (Below.refl _ w).alloc (Nat.le_refl _) _⟩

theorem FileOk.drewN {W : World} {F : Nat} (h : FileOk W F) (n : Nat) : FileOk (W.drewN n) F := h.below (below_drewN (Below.refl _ _) n)

/-- The world in which a NodeInfo result's place is laid. -/
def spot (w : World) : World := w.alloc (.cells #[.pointer none, .int .i64 0, .int .i64 0] 48)
theorem spot_below (w : World) : Below w.heap.size w (spot w) := (Below.refl _ w).alloc (Nat.le_refl _) _
theorem spot_blk (w : World) : Blk (spot w) w.heap.size 48 #[.pointer none, .int .i64 0, .int .i64 0] := Blk.new w _ _
theorem spot_size (w : World) : (spot w).heap.size = w.heap.size + 1 := by simp [spot]

set_option maxHeartbeats 3200000 in
set_option maxRecDepth 100000 in
theorem nodeInfo17 (F i g cap : Nat) (w : World) (h : FileOk w F) (h4 : w.cell? ⟨i, 4, none⟩ = some (.slice (some ⟨g, 0, none⟩) 1 cap)) (hi : i < w.heap.size) :
    Calls Tryz.prog 17 #[.pointer (some ⟨i, 0, none⟩), .iface 25 (.pointer (some ⟨F, 0, none⟩))] w fun e w' => e = .returned (span i) ∧ Below w.heap.size w w' := by
  have hn : (spot w).cell? ⟨i, 4, none⟩ = some (.slice (some ⟨g, 0, none⟩) 1 cap) := (World.cell?_alloc_lt _ _ _ (by exact hi)).trans h4
  have hF : FileOk (spot w) F := h.below (spot_below w)
  have hsp := Lib.hid (spot_blk w)
  have hbw := spot_below w
  have hsz := Lib.hid (spot_size w)
  have hi1 : i < (spot w).heap.size := by rw [hsz.out]; omega
  clear h4 h
  go_enter Tryz.func17, Tryz.ntmps17
  go_wp2_with fail
  change Calls Tryz.prog 48 _ (spot w) _
  generalize spot w = w1 at *
  refine (start_any F w1 hF).mono ?_
  rintro e w' ⟨rfl, rfl⟩
  go_wp2_with fail
  refine (end_any F w1 hF).mono ?_
  rintro e w' ⟨rfl, n, rfl⟩
  go_wp2_with fail
  refine (nodeInfo20 i g cap (w1.drewN n) hn hi1).mono ?_
  rintro e w2 ⟨rfl, hb2⟩
  have hb12 : Below w1.heap.size w1 w2 := (below_drewN (Below.refl _ w1) n).trans hb2
  have hB := hsp.out.below hb12
  have d0 : w2.cell? ⟨w.heap.size, 0, none⟩ = some (.pointer none) := hB.cell 0
  have d1 : w2.cell? ⟨w.heap.size, 1, none⟩ = some (.int .i64 0) := hB.cell 1
  have d2 : w2.cell? ⟨w.heap.size, 2, none⟩ = some (.int .i64 0) := hB.cell 2
  have f0 : w2.frozen? ⟨w.heap.size, 0, none⟩ = false := hB.frozen 0
  have f1 : w2.frozen? ⟨w.heap.size, 1, none⟩ = false := hB.frozen 1
  have f2 : w2.frozen? ⟨w.heap.size, 2, none⟩ = false := hB.frozen 2
  have HB := Lib.hid hB
  have HW := Lib.hid (show Below w.heap.size w w2 from hbw.trans (hb12.mono (by rw [hsz.out]; omega)))
  clear hB hb12 hb2 hbw hn hF hi1
  unfold span
  go_wp2
  have hB1 := HB.out.set_ 0 (.pointer (some ⟨i, 0, none⟩))
  have hB2 := hB1.set_ 1 (.int .i64 0)
  have hB3 := hB2.set_ 2 (.int .i64 0)
  have k0 := hB1.cell 0
  have k1 := hB2.cell 1
  have k2 := hB3.cell 2
  simp at k0 k1 k2
  refine bodyPost_ret (v := span i) (by simp [results, Tryz.results17, go_sem, k0, k1, k2, span]) rfl ?_
  exact ⟨rfl, ((HW.out.setCell (Nat.le_refl _) _).setCell (Nat.le_refl _) _).setCell (Nat.le_refl _) _⟩

set_option maxHeartbeats 3200000 in
set_option maxRecDepth 100000 in
theorem nodeInfo13 (F : Nat) (w : World) (h : FileOk w F) :
    Calls Tryz.prog 13 #[.pointer (some ⟨F, 0, none⟩), .iface 25 (.pointer (some ⟨F, 0, none⟩))] w fun e w' => (∃ i : Nat, e = .returned (span i)) ∧ Below w.heap.size w w' := by
  obtain ⟨i, g, cap, h1, h4, hi⟩ : ∃ i g cap : Nat, w.cell? ⟨F, 1, none⟩ = some (.pointer (some ⟨i, 0, none⟩)) ∧ w.cell? ⟨i, 4, none⟩ = some (.slice (some ⟨g, 0, none⟩) 1 cap) ∧ i < w.heap.size := by
    obtain ⟨C, R, i, g, cap, D, L, h1, h2, h3, h4⟩ := h
    exact ⟨i, g, cap, h1.cell 1, h4.cell 4, h4.lt⟩
  have hn : (spot w).cell? ⟨i, 4, none⟩ = some (.slice (some ⟨g, 0, none⟩) 1 cap) := (World.cell?_alloc_lt _ _ _ (by exact hi)).trans h4
  have hF : FileOk (spot w) F := h.below (spot_below w)
  have hsp := Lib.hid (spot_blk w)
  have hbw := spot_below w
  have hsz := Lib.hid (spot_size w)
  have hi1 : i < (spot w).heap.size := by rw [hsz.out]; omega
  have hFl := h.lt
  have h1' : (w.alloc (.cells #[.pointer none, .int .i64 0, .int .i64 0] 48)).cell? ⟨F, 1, none⟩ = some (.pointer (some ⟨i, 0, none⟩)) := by
    rw [World.cell?_alloc_lt _ _ _ (by exact hFl)]; exact h1
  clear h4 h h1
  go_enter Tryz.func13, Tryz.ntmps13
  go_wp2_with fail
  change Calls Tryz.prog 17 _ (spot w) _
  generalize spot w = w1 at *
  refine (nodeInfo17 F i g cap w1 hF hn hi1).mono ?_
  rintro e w2 ⟨rfl, hb12⟩
  have hB := hsp.out.below hb12
  have d0 : w2.cell? ⟨w.heap.size, 0, none⟩ = some (.pointer none) := hB.cell 0
  have d1 : w2.cell? ⟨w.heap.size, 1, none⟩ = some (.int .i64 0) := hB.cell 1
  have d2 : w2.cell? ⟨w.heap.size, 2, none⟩ = some (.int .i64 0) := hB.cell 2
  have f0 : w2.frozen? ⟨w.heap.size, 0, none⟩ = false := hB.frozen 0
  have f1 : w2.frozen? ⟨w.heap.size, 1, none⟩ = false := hB.frozen 1
  have f2 : w2.frozen? ⟨w.heap.size, 2, none⟩ = false := hB.frozen 2
  have HB := Lib.hid hB
  have HW := Lib.hid (show Below w.heap.size w w2 from hbw.trans (hb12.mono (by rw [hsz.out]; omega)))
  clear hB hb12 hbw hn hF hi1
  unfold span
  go_wp2
  have hB1 := HB.out.set_ 0 (.pointer (some ⟨i, 0, none⟩))
  have hB2 := hB1.set_ 1 (.int .i64 0)
  have hB3 := hB2.set_ 2 (.int .i64 0)
  have k0 := hB1.cell 0
  have k1 := hB2.cell 1
  have k2 := hB3.cell 2
  simp at k0 k1 k2
  refine bodyPost_ret (v := span i) (by simp [results, Tryz.results13, go_sem, k0, k1, k2, span]) rfl ?_
  exact ⟨⟨i, rfl⟩, ((HW.out.setCell (Nat.le_refl _) _).setCell (Nat.le_refl _) _).setCell (Nat.le_refl _) _⟩
end Go.Proofs.YtnclklfhjbkjhaaGreatDoor.Walk
