/-
  FnTagOk, the walk of NewEmptyFileNode: what the empty file's nodes look like in memory. No condition.
-/
import Derived.Test.YtnclklfhjbkjhaaGreatDoorProg
import Derived.WalkKit
import Derived.WalkSmall
import Derived.Handy
import Derived.Lib.Hide
import Derived.Outline
import Derived.WalkSpells
import Derived.WalkLawsBesides
import Derived.Laws.OwnMore
namespace Go.Proofs.YtnclklfhjbkjhaaGreatDoor.Walk
open Go.RowKit

theorem info59 : (Tryz.prog.info? 59).map (fun i => (i.zero, i.size, i.bytes)) = some (some (.agg #[.int .i64 0, .int .i64 0]), 2, 16) := by kernel_rfl

set_option maxHeartbeats 1600000 in
theorem newFileInfo_any (A : Option Addr) (n c : Nat) (w : World) : Calls Tryz.prog 9 #[.string ⟨#[]⟩, .slice A n c] w fun e w' => e = .returned (.pointer (some ⟨w.heap.size + 1, 0, none⟩)) ∧
    w' = (w.alloc (.cells #[.int .i64 0] 3)).alloc (.cells #[.string ⟨#[]⟩, .slice A n c, .slice (some ⟨w.heap.size, 0, none⟩) 1 1, .slice none 0 0, .slice none 0 0] 54) := by
  go_enter Tryz.func9, Tryz.ntmps9
  go_wp2_with fail
  go_ret
  exact ⟨rfl, rfl⟩

set_option maxHeartbeats 1600000 in
theorem newRuneNode_any (w : World) : Calls Tryz.prog 18 #[.int .i32 0, .int .i64 0] w fun e w' => e = .returned (.pointer (some ⟨w.heap.size, 0, none⟩)) ∧
    w' = w.alloc (.cells #[.int .i64 0, .int .i32 0] 97) := by
  go_enter Tryz.func18, Tryz.ntmps18
  go_wp2
  go_ret
  exact ⟨rfl, rfl⟩

/-- The world behind newFileNode. -/
def fileWorld (I : Option Addr) (w : World) : World :=
  (((w.alloc (.cells #[.iface 69 (.pointer (some ⟨w.heap.size + 1, 0, none⟩))] 43)).alloc (.cells #[.int .i64 0, .int .i32 0] 97)).alloc (.cells #[.iface 69 (.pointer (some ⟨w.heap.size + 1, 0, none⟩))] 43)).alloc
    (.cells #[.slice (some ⟨w.heap.size, 0, none⟩) 1 1, .pointer I, .pointer none, .pointer none, .slice none 0 0, .pointer (some ⟨w.heap.size + 1, 0, none⟩)] 71)

set_option maxHeartbeats 3200000 in
set_option maxRecDepth 100000 in
theorem newFileNode_any (I : Option Addr) (w : World) : Calls Tryz.prog 10 #[.pointer I, .pointer none, .slice none 0 0, .int .i64 0] w fun e w' =>
    e = .returned (.pointer (some ⟨w.heap.size + 1 + 1 + 1, 0, none⟩)) ∧ w' = fileWorld I w := by
  have hmk : ∀ w, (Instr.makeSlice 65 (.int .i64 0) (.int .i64 1)).run Tryz.prog w = .ok (.slice (some ⟨w.heap.size, 0, none⟩) 0 1) (w.alloc (.cells #[.nilIface] 43)) := fun _ => by kernel_rfl
  go_enter Tryz.func10, Tryz.ntmps10
  go_wp2
  refine wp_loop_rounds 1 ?_
  rw [rounds_succ]
  go_wp2
  go_ret
  exact ⟨rfl, rfl⟩

/-- A block that is known whole. -/
def Blk (w : World) (g : Nat) (t : TypeId) (cs : Array Value) : Prop := w.heap[g]? = some (.cells cs t (0, 0))
theorem Blk.lt {w : World} {g : Nat} {t : TypeId} {cs : Array Value} (h : Blk w g t cs) : g < w.heap.size := (Array.getElem?_eq_some_iff.1 h).1
theorem Blk.cell {w : World} {g : Nat} {t : TypeId} {cs : Array Value} (h : Blk w g t cs) (i : Nat) : w.cell? ⟨g, i, none⟩ = cs[i]? := cell_of_row w g i cs t (0, 0) h
theorem Blk.frozen {w : World} {g : Nat} {t : TypeId} {cs : Array Value} (h : Blk w g t cs) (i : Nat) : w.frozen? ⟨g, i, none⟩ = false := by
  unfold Blk at h
  simp [World.frozen?, h]
theorem Blk.new (w : World) (t : TypeId) (cs : Array Value) : Blk (w.alloc (.cells cs t)) w.heap.size t cs := heap_alloc_new w _
theorem Blk.alloc {w : World} {g : Nat} {t : TypeId} {cs : Array Value} (h : Blk w g t cs) (o : Obj) : Blk (w.alloc o) g t cs := (Below.heap_alloc w o g h.lt).trans h
theorem Blk.set_ {w : World} {g : Nat} {t : TypeId} {cs : Array Value} (h : Blk w g t cs) (i : Nat) (u : Value) : Blk (w.setCell ⟨g, i, none⟩ u) g t (cs.setIfInBounds i u) := by
  unfold Blk at h ⊢
  simp [World.setCell, Array.getElem?_modify, h]
theorem Blk.below {w w' : World} {g : Nat} {t : TypeId} {cs : Array Value} (h : Blk w g t cs) (hb : Below w.heap.size w w') : Blk w' g t cs := (hb.block g h.lt).trans h
theorem Blk.grown {w w' : World} {g : Nat} {t : TypeId} {cs : Array Value} {row : Option Nat} (h : Blk w g t cs) (hb : w.grownBy w' row) (hg : some g ≠ row) : Blk w' g t cs := (hb.block g h.lt hg).trans h

theorem own_form {w : World} {base : Nat} {e : TypeId} {size : Nat} {v : Value} {xs : List Value} (h : w.ownsRow base e size v 1 xs) : ∃ g cap, v = .slice (some ⟨g, 0, none⟩) 1 cap := by
  rcases h.2 with ⟨_, h⟩ | ⟨g, cap, cur, h, _⟩
  · omega
  · exact ⟨g, cap, h⟩

/-- The file's info, its items being v. -/
def Info (w : World) (i : Nat) (v : Value) : Prop := ∃ D L : Value, ∃ dc : Nat, ∃ A : Option Addr, D = .slice A 0 dc ∧ Blk w i 54 #[.string ⟨#[]⟩, D, L, .slice none 0 0, v]

set_option maxHeartbeats 3200000 in
set_option maxRecDepth 100000 in
theorem addToken_any (i : Nat) (w : World) (hI : Info w i (.slice none 0 0)) : Calls Tryz.prog 11 #[.pointer (some ⟨i, 0, none⟩), .int .i64 0, .int .i64 0] w fun e w' =>
    e = .returned (.int .i64 0) ∧ ∃ g cap, Info w' i (.slice (some ⟨g, 0, none⟩) 1 cap) ∧ Below i w w' := by
  obtain ⟨i0, hi, hz0, hz1, hz2⟩ := info_parts info59
  obtain ⟨D, L, dc, A, rfl, hB⟩ := hI
  have h1 : w.cell? ⟨i, 1, none⟩ = some (.slice A 0 dc) := hB.cell 1
  have h4 : w.cell? ⟨i, 4, none⟩ = some (.slice none 0 0) := hB.cell 4
  have HB := Lib.hid hB
  clear hB
  go_enter Tryz.func11, Tryz.ntmps11
  go_wp2_with (at_builtin; refine wpList_append_own _ rfl _ _ 52 rfl w.heap.size 59 i0 (.agg #[.int .i64 0, .int .i64 0]) 2 16 Tryz.underlying52 hi hz0 hz1 hz2 rfl (by decide) _ _ _ rfl (World.ownsRow_nil _ _ _ _) ⟨w.heap.size, 0, none⟩ 1 1 [.int .i64 0, .int .i64 0] rfl rfl ?c1 ?c2 ?c3 ?c4 ?c5 ?_)
  case c1 => exact cell_two_new _ _ _ _
  case c2 =>
    intro u hu
    rcases List.mem_cons.1 hu with rfl | hu
    · rfl
    · rw [List.mem_singleton.1 hu]; rfl
  case c3 => unfold maxLen; omega
  case c4 => omega
  case c5 => simp
  intro v' w1 hown' hgrow _
  have hB1 : Blk w1 i 54 #[.string ⟨#[]⟩, .slice A 0 dc, L, .slice none 0 0, .slice none 0 0] := (HB.out.alloc _).grown hgrow (by simp [Value.ownBlock])
  have g4 : w1.cell? ⟨i, 4, none⟩ = some (.slice none 0 0) := hB1.cell 4
  have g5 : w1.frozen? ⟨i, 4, none⟩ = false := hB1.frozen 4
  have hlt := HB.out.lt
  have hbel : Below i w w1 := ((Below.refl i w).alloc (Nat.le_of_lt hlt) _).grown hgrow (by simp; omega) (by simp [Value.ownBlock])
  have HB1 := Lib.hid hB1
  obtain ⟨g, cap, hv⟩ := own_form hown'
  rw [hv]
  clear hv hown' hgrow hB1
  go_wp2
  go_ret
  exact ⟨rfl, g, cap, ⟨.slice A 0 dc, L, dc, A, rfl, HB1.out.set_ 4 (.slice (some ⟨g, 0, none⟩) 1 cap)⟩, hbel.setCell (Nat.le_refl _) _⟩
end Go.Proofs.YtnclklfhjbkjhaaGreatDoor.Walk
