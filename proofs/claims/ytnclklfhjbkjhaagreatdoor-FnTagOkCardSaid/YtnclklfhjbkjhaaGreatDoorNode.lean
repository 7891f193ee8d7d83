/-
  FnTagOk, the walks of NewEmptyFileNode and NodeInfo. No condition.
-/
import Derived.Test.YtnclklfhjbkjhaaGreatDoorFile
import Derived.Deep.QuietTactic
import Derived.BigQuiet
namespace Go.Proofs.YtnclklfhjbkjhaaGreatDoor.Walk
open Go.RowKit

/-- An empty file's node at F: what NodeInfo reads of it. -/
def FileOk (W : World) (F : Nat) : Prop := ∃ C R i g cap : Nat, ∃ D L : Value,
  Blk W F 71 #[.slice (some ⟨C, 0, none⟩) 1 1, .pointer (some ⟨i, 0, none⟩), .pointer none, .pointer none, .slice none 0 0, .pointer (some ⟨R, 0, none⟩)] ∧
  Blk W C 43 #[.iface 69 (.pointer (some ⟨R, 0, none⟩))] ∧ Blk W R 97 #[.int .i64 0, .int .i32 0] ∧
  Blk W i 54 #[.string ⟨#[]⟩, D, L, .slice none 0 0, .slice (some ⟨g, 0, none⟩) 1 cap]
theorem FileOk.below {W W' : World} {F : Nat} (h : FileOk W F) (hb : Below W.heap.size W W') : FileOk W' F := by
  obtain ⟨C, R, i, g, cap, D, L, h1, h2, h3, h4⟩ := h
  exact ⟨C, R, i, g, cap, D, L, h1.below hb, h2.below hb, h3.below hb, h4.below hb⟩
theorem FileOk.lt {W : World} {F : Nat} (h : FileOk W F) : F < W.heap.size := by
  obtain ⟨C, R, i, g, cap, D, L, h1, _⟩ := h
  exact h1.lt

theorem fileWorld_below (I : Option Addr) (w : World) : Below w.heap.size w (fileWorld I w) :=
  ((((Below.refl _ w).alloc (Nat.le_refl _) _).alloc (by simp) _).alloc (by simp; omega) _).alloc (by simp; omega) _
theorem fileWorld_ok (i : Nat) (w : World) (D L : Value) (g cap : Nat) (h : Blk w i 54 #[.string ⟨#[]⟩, D, L, .slice none 0 0, .slice (some ⟨g, 0, none⟩) 1 cap]) :
    FileOk (fileWorld (some ⟨i, 0, none⟩) w) (w.heap.size + 1 + 1 + 1) := by
  refine ⟨w.heap.size, w.heap.size + 1, i, g, cap, D, L, ?_, ?_, ?_, h.below (fileWorld_below _ w)⟩ <;> unfold fileWorld
  · have := Blk.new (((w.alloc (.cells #[.iface 69 (.pointer (some ⟨w.heap.size + 1, 0, none⟩))] 43)).alloc (.cells #[.int .i64 0, .int .i32 0] 97)).alloc (.cells #[.iface 69 (.pointer (some ⟨w.heap.size + 1, 0, none⟩))] 43)) 71 #[.slice (some ⟨w.heap.size, 0, none⟩) 1 1, .pointer (some ⟨i, 0, none⟩), .pointer none, .pointer none, .slice none 0 0, .pointer (some ⟨w.heap.size + 1, 0, none⟩)]
    simpa using this
  · exact (((Blk.new w 43 _).alloc _).alloc _).alloc _
  · have := ((Blk.new (w.alloc (.cells #[.iface 69 (.pointer (some ⟨w.heap.size + 1, 0, none⟩))] 43)) 97 #[.int .i64 0, .int .i32 0]).alloc (.cells #[.iface 69 (.pointer (some ⟨w.heap.size + 1, 0, none⟩))] 43)).alloc (.cells #[.slice (some ⟨w.heap.size, 0, none⟩) 1 1, .pointer (some ⟨i, 0, none⟩), .pointer none, .pointer none, .slice none 0 0, .pointer (some ⟨w.heap.size + 1, 0, none⟩)] 71)
    simpa using this

theorem newInfo_any (A : Option Addr) (c : Nat) (w : World) : Calls Tryz.prog 9 #[.string ⟨#[]⟩, .slice A 0 c] w fun e w' =>
    ∃ i : Nat, e = .returned (.pointer (some ⟨i, 0, none⟩)) ∧ w.heap.size ≤ i ∧ Info w' i (.slice none 0 0) ∧ Below w.heap.size w w' := by
  refine (newFileInfo_any A 0 c w).mono fun e w' ⟨he, hw⟩ => ?_
  subst hw
  refine ⟨w.heap.size + 1, he, by omega, ⟨.slice A 0 c, .slice (some ⟨w.heap.size, 0, none⟩) 1 1, c, A, rfl, ?_⟩, ((Below.refl _ w).alloc (Nat.le_refl _) _).alloc (by simp) _⟩
  have := Blk.new (w.alloc (.cells #[.int .i64 0] 3)) 54 #[.string ⟨#[]⟩, .slice A 0 c, .slice (some ⟨w.heap.size, 0, none⟩) 1 1, .slice none 0 0, .slice none 0 0]
  simpa using this

theorem newNode_any (i g cap : Nat) (w : World) (h : Info w i (.slice (some ⟨g, 0, none⟩) 1 cap)) : Calls Tryz.prog 10 #[.pointer (some ⟨i, 0, none⟩), .pointer none, .slice none 0 0, .int .i64 0] w fun e w' =>
    ∃ F : Nat, e = .returned (.pointer (some ⟨F, 0, none⟩)) ∧ w.heap.size ≤ F ∧ FileOk w' F ∧ Below w.heap.size w w' := by
  obtain ⟨D, L, dc, A, _, hB⟩ := h
  refine (newFileNode_any (some ⟨i, 0, none⟩) w).mono fun e w' ⟨he, hw⟩ => ?_
  subst hw
  exact ⟨w.heap.size + 1 + 1 + 1, he, by omega, fileWorld_ok i w D L g cap hB, fileWorld_below _ w⟩

set_option maxHeartbeats 3200000 in
theorem newEmpty_any (w : World) : Calls Tryz.prog 7 #[.string ⟨#[]⟩] w fun e w' => ∃ F : Nat, e = .returned (.pointer (some ⟨F, 0, none⟩)) ∧ w.heap.size ≤ F ∧ FileOk w' F ∧ Below w.heap.size w w' := by
  have hb0 : Below w.heap.size w (w.alloc (.cells #[] 5)) := (Below.refl _ w).alloc (Nat.le_refl _) _
  go_enter Tryz.func7, Tryz.ntmps7
  go_wp2_with fail
  refine (newInfo_any _ _ _).mono ?_
  rintro e w1 ⟨i, rfl, hi, hI, hb1⟩
  have hb01 := hb0.trans (hb1.mono (by simp))
  have hi0 : w.heap.size ≤ i := by simp at hi; omega
  clear hb0 hb1 hi
  go_wp2_with fail
  refine (addToken_any i _ hI).mono ?_
  rintro e w2 ⟨rfl, g, cap, hI2, hb2⟩
  have hb02 := hb01.trans (hb2.mono hi0)
  clear hb01 hb2 hI
  go_wp2_with fail
  refine (newNode_any i g cap _ hI2).mono ?_
  rintro e w3 ⟨F, rfl, hF, hOk, hb3⟩
  have hsz := hb02.size
  have hb03 := hb02.trans (hb3.mono hsz)
  have hF0 : w.heap.size ≤ F := by omega
  clear hb3 hb02 hI2 hF
  go_wp2_with fail
  go_ret
  exact ⟨F, rfl, hF0, hOk, hb03⟩
end Go.Proofs.YtnclklfhjbkjhaaGreatDoor.Walk
