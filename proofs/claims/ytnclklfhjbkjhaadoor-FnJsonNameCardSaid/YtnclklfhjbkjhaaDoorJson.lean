/-
  FnJsonName and FnEntryName, the walk of JSONName: of a text of ASCII it gives the JSON name. Condition: ASCII, at most 1000 bytes.
-/
import Derived.Test.YtnclklfhjbkjhaaDoorBytes
import Derived.WalkKit
import Derived.WalkSmall
import Derived.Lib.OthersKept
import Derived.Maps.AppendAt
import Derived.Lib.Hide
import Derived.Laws.Cover4
namespace Go.Proofs.YtnclklfhjbkjhaaDoor.Plain
open Go.RowKit

theorem info21 : (Tryd.prog.info? 21).map (fun i => (i.zero, i.size, i.bytes)) = some (some (.int .i32 0), 1, 4) := by kernel_rfl

theorem upper_low (r : Int) (w : World) (h0 : 97 ≤ r) (h1 : r ≤ 122) : Calls Tryd.prog 12 #[.int .i32 r] w fun e w' => e = .returned (.int .i32 (r - 32)) ∧ w = w' := by
  go_enter Tryd.func12, Tryd.ntmps12
  go_wp2_with fail
  go_ret
  exact ⟨rfl, rfl⟩
theorem upper_under (r : Int) (w : World) (h1 : r < 97) : Calls Tryd.prog 12 #[.int .i32 r] w fun e w' => e = .returned (.int .i32 r) ∧ w = w' := by
  go_enter Tryd.func12, Tryd.ntmps12
  go_wp2_with fail
  go_ret
  exact ⟨rfl, rfl⟩
theorem upper_over (r : Int) (w : World) (h0 : 122 < r) (h1 : r ≤ 127) : Calls Tryd.prog 12 #[.int .i32 r] w fun e w' => e = .returned (.int .i32 r) ∧ w = w' := by
  go_enter Tryd.func12, Tryd.ntmps12
  go_wp2_with fail
  go_ret
  exact ⟨rfl, rfl⟩

/-- What holds behind k bytes: the runes so far lie in a row of the call's own, the iterator stands at k, nothing of old has turned. -/
def Rel (s : ByteArray) (w : World) (k : Nat) (v : Value) (wr : World) : Prop :=
  wr.ownsRow (w.heap.size + 1) 21 1 v (st s k).1.length ((st s k).1.map (Value.int .i32)) ∧ wr.heap[w.heap.size]? = some (.stringIter s k) ∧ Below w.heap.size w wr

theorem Rel.start (s : ByteArray) (w : World) : Rel s w 0 (.slice none 0 0) (w.iter s 0) :=
  ⟨World.ownsRow_nil _ _ _ _, World.iter_heap w s 0, (Below.refl _ _).alloc (Nat.le_refl _) _⟩
theorem Rel.pos {s : ByteArray} {w wr : World} {k : Nat} {v : Value} (h : Rel s w k v wr) : wr.iterPos w.heap.size = k := iterPos_of h.2.1
theorem Rel.size {s : ByteArray} {w wr : World} {k : Nat} {v : Value} (h : Rel s w k v wr) : w.heap.size + 1 ≤ wr.heap.size := by
  have := (Array.getElem?_eq_some_iff.1 h.2.1).1
  omega
theorem Rel.under {s : ByteArray} {w wr : World} {k : Nat} {v : Value} (h : Rel s w k v wr) (hc : bt s (k : Int) = 95) : Rel s w (k + 1) v (wr.iterAt w.heap.size s (k + 1)) := by
  refine ⟨?_, Lib.iterAt_heap _ _ _ _ _ h.2.1, Lib.below_iterAt h.2.2 (Nat.le_refl _) s (k + 1)⟩
  rw [st_under s k hc]
  exact ownsRow_iterAt h.1 (Nat.lt_succ_self _) s (k + 1)
theorem Rel.own {s : ByteArray} {w wr : World} {k : Nat} {v : Value} (h : Rel s w k v wr) (x : Value) :
    ((wr.iterAt w.heap.size s (k + 1)).alloc (.cells #[x] 21)).ownsRow (w.heap.size + 1) 21 1 v (st s k).1.length ((st s k).1.map (Value.int .i32)) :=
  (ownsRow_iterAt h.1 (Nat.lt_succ_self _) s (k + 1)).alloc _
theorem Rel.add {s : ByteArray} {w wr w1 : World} {k : Nat} {v v' : Value} {x : Int} {b : Bool} {o : Obj} (h : Rel s w k v wr) (hst : st s (k + 1) = ((st s k).1 ++ [x], b))
    (hown : w1.ownsRow (w.heap.size + 1) 21 1 v' ((st s k).1.length + 1) ((st s k).1.map (Value.int .i32) ++ [.int .i32 x])) (hg : ((wr.iterAt w.heap.size s (k + 1)).alloc o).grownBy w1 v.ownBlock) : Rel s w (k + 1) v' w1 := by
  have hb := h.1.lt
  have hsz := h.size
  refine ⟨by rw [hst]; simpa using hown, ?_, ?_⟩
  · rw [hg.block w.heap.size (by simp [Lib.iterAt_size]; omega) (fun e => by have := hb _ e.symm; omega), Below.heap_alloc _ _ _ (by rw [Lib.iterAt_size]; omega)]
    exact Lib.iterAt_heap _ _ _ _ _ h.2.1
  · exact ((Lib.below_iterAt h.2.2 (Nat.le_refl _) s (k + 1)).alloc (by rw [Lib.iterAt_size]; omega) o).grown hg (by simp [Lib.iterAt_size]; omega) (fun j hj => by have := (hb j hj).1; omega)

/-- 'string(js)': the runes' bytes. -/
theorem conv_own {w : World} {base : Nat} {v : Value} {ns : List Int} (h : w.ownsRow base 21 1 v ns.length (ns.map (Value.int .i32))) :
    (convert 26 9 v).run Tryd.prog w = .ok (.string (runesBytes ns)) w := by
  rcases h.2 with ⟨rfl, hn⟩ | ⟨g, cap, cur, rfl, _⟩
  · have : ns = [] := List.eq_nil_of_length_eq_zero hn
    subst this
    exact run_convert_runes_nil w 26 9 21 0 0 Tryd.underlying26 Tryd.underlying21 Tryd.underlying9
  · have hc := h.cells (g := g) rfl
    have := run_convert_runes (P := Tryd.prog) w 26 9 21 ⟨g, 0, none⟩ ns.length cap ns (Nat.le_refl _) Tryd.underlying26 Tryd.underlying21 Tryd.underlying9 (fun j hj => hc j _ (by
      rw [List.getElem?_map, List.getElem?_eq_getElem hj, List.getD_eq_getElem?_getD, List.getElem?_eq_getElem hj]; rfl))
    rw [List.take_length] at this
    exact this

theorem next_at {s : ByteArray} {w wr : World} {k : Nat} {v : Value} (h : Rel s w k v wr) (hk : k < s.size) (ha : Ascii s) {c : Int} (hc : c = bt s (k : Int)) :
    ∀ ty, (Instr.next (.pointer (some ⟨w.heap.size, 0, none⟩)) true ty).run Tryd.prog wr = .ok (.tuple #[.bool true, .int .i64 k, .int .i32 c]) (wr.iterAt w.heap.size s (k + 1)) := by
  intro ty
  have e : bt s (k : Int) = ((s[k]'hk).toNat : Int) := (bt_nat s k hk).symm
  have := ha k hk
  rw [hc, e]
  exact Lib.run_next_ascii_at wr w.heap.size s k ty h.2.1 hk (by omega)

set_option maxHeartbeats 1600000 in
set_option maxRecDepth 1000000 in
theorem jsonName_any (s : ByteArray) (w : World) (hs : s.size ≤ 1000) (ha : Ascii s) :
    Calls Tryd.prog 10 #[.string s] w fun e w' => e = .returned (.string (J s)) ∧ Below w.heap.size w w' := by
  obtain ⟨i0, hi, hz0, hz1, hz2⟩ := info_parts info21
  have HA := Lib.hid ha
  clear ha
  go_enter Tryd.func10, Tryd.ntmps10
  go_wp2
  go_loopw [3, 4] (fun v up wr => ∃ k : Nat, k ≤ s.size ∧ up = .bool (st s k).2 ∧ Rel s w k v wr) (fun _ _ wr => s.size - wr.iterPos w.heap.size)
  case atStart => exact ⟨0, Nat.zero_le _, rfl, Rel.start s w⟩
  case round =>
    obtain ⟨k, hk, rfl, hR⟩ := hrel
    by_cases hlt : k < s.size
    · obtain ⟨c, hc⟩ : ∃ c, c = bt s (k : Int) := ⟨_, rfl⟩
      have hnx := next_at hR hlt HA.out hc
      have h0 : 0 ≤ c := by rw [hc]; exact (bt_range s (k : Int)).1
      have h1 : c < 128 := by rw [hc]; exact HA.out k hlt
      have HC := Lib.hid hc
      clear hc
      have hln := st_len s k
      generalize hb : (st s k).2 = b
      have HB := Lib.hid hb
      clear hb
      by_cases h95 : c = 95
      · have hc95 : (c == 95) = true := by simpa using h95
        have hN := hR.under (by rw [← HC.out]; exact h95)
        have HS : Hid (st s (k + 1) = ((st s k).1, true)) := Lib.hid (st_under s k (by rw [← HC.out]; exact h95))
        clear h95
        go_wp2
        go_roundw
        case rel => exact ⟨k + 1, by omega, by rw [HS.out], hN⟩
        case measure => rw [hN.pos, hR.pos]; omega
      have hc95 : (c == 95) = false := by simpa using h95
      have H95 := Lib.hid h95
      clear h95
      cases b with
      | false =>
        go_wp2_with (at_builtin; refine wpList_append_own _ rfl _ _ 26 rfl (w.heap.size + 1) 21 i0 (.int .i32 0) 1 4 Tryd.underlying26 hi hz0 hz1 hz2 rfl (by decide) _ _ _ rfl (hR.own (.int .i32 (c))) ⟨(wr.iterAt w.heap.size s (k + 1)).heap.size, 0, none⟩ 1 1 [.int .i32 (c)] rfl rfl ?c11 ?c21 ?c31 ?c41 ?c51 ?_)
        case c11 => exact cell_one_new _ _ _
        case c21 => intro u hu; simp at hu; subst hu; rfl
        case c31 => unfold maxLen; omega
        case c41 => omega
        case c51 => have := hR.size; simp [Lib.iterAt_size]; omega
        intro v' w1 hown' hgrow _
        have hN : Rel s w (k + 1) v' w1 := hR.add (b := false) (by rw [HC.out]; exact st_same s k (by rw [← HC.out]; exact H95.out) (fun h => by rw [HB.out] at h; cases h.1)) hown' hgrow
        have HS : Hid (st s (k + 1) = ((st s k).1 ++ [c], false)) := Lib.hid (by rw [HC.out]; exact st_same s k (by rw [← HC.out]; exact H95.out) (fun h => by rw [HB.out] at h; cases h.1))
        clear hown' hgrow hnx
        go_wp2
        go_roundw
        case rel => exact ⟨k + 1, by omega, by rw [HS.out], hN⟩
        case measure => rw [hN.pos, hR.pos]; omega
      | true =>
        by_cases h97 : c < 97
        · skip
          go_wp2_with (first | (go_at_call 12; refine (upper_under c _ h97).mono ?_; rintro e w' ⟨rfl, rfl⟩) | (at_builtin; refine wpList_append_own _ rfl _ _ 26 rfl (w.heap.size + 1) 21 i0 (.int .i32 0) 1 4 Tryd.underlying26 hi hz0 hz1 hz2 rfl (by decide) _ _ _ rfl (hR.own (.int .i32 (c))) ⟨(wr.iterAt w.heap.size s (k + 1)).heap.size, 0, none⟩ 1 1 [.int .i32 (c)] rfl rfl ?c12 ?c22 ?c32 ?c42 ?c52 ?_))
          case c12 => exact cell_one_new _ _ _
          case c22 => intro u hu; simp at hu; subst hu; rfl
          case c32 => unfold maxLen; omega
          case c42 => omega
          case c52 => have := hR.size; simp [Lib.iterAt_size]; omega
          intro v' w1 hown' hgrow _
          have hN : Rel s w (k + 1) v' w1 := hR.add (b := false) (by rw [HC.out]; exact st_same s k (by rw [← HC.out]; exact H95.out) (fun h => by rw [← HC.out] at h; omega)) hown' hgrow
          have HS : Hid (st s (k + 1) = ((st s k).1 ++ [c], false)) := Lib.hid (by rw [HC.out]; exact st_same s k (by rw [← HC.out]; exact H95.out) (fun h => by rw [← HC.out] at h; omega))
          clear hown' hgrow hnx
          go_wp2
          go_roundw
          case rel => exact ⟨k + 1, by omega, by rw [HS.out], hN⟩
          case measure => rw [hN.pos, hR.pos]; omega
        by_cases h122 : c ≤ 122
        · have h97' : 97 ≤ c := by omega
          clear h97
          go_wp2_with (first | (go_at_call 12; refine (upper_low c _ h97' h122).mono ?_; rintro e w' ⟨rfl, rfl⟩) | (at_builtin; refine wpList_append_own _ rfl _ _ 26 rfl (w.heap.size + 1) 21 i0 (.int .i32 0) 1 4 Tryd.underlying26 hi hz0 hz1 hz2 rfl (by decide) _ _ _ rfl (hR.own (.int .i32 (c - 32))) ⟨(wr.iterAt w.heap.size s (k + 1)).heap.size, 0, none⟩ 1 1 [.int .i32 (c - 32)] rfl rfl ?c13 ?c23 ?c33 ?c43 ?c53 ?_))
          case c13 => exact cell_one_new _ _ _
          case c23 => intro u hu; simp at hu; subst hu; rfl
          case c33 => unfold maxLen; omega
          case c43 => omega
          case c53 => have := hR.size; simp [Lib.iterAt_size]; omega
          intro v' w1 hown' hgrow _
          have hN : Rel s w (k + 1) v' w1 := hR.add (b := false) (by rw [HC.out]; exact st_cap s k (by rw [← HC.out]; exact H95.out) HB.out (by rw [← HC.out]; exact h97') (by rw [← HC.out]; exact h122)) hown' hgrow
          have HS : Hid (st s (k + 1) = ((st s k).1 ++ [c - 32], false)) := Lib.hid (by rw [HC.out]; exact st_cap s k (by rw [← HC.out]; exact H95.out) HB.out (by rw [← HC.out]; exact h97') (by rw [← HC.out]; exact h122))
          clear hown' hgrow hnx
          go_wp2
          go_roundw
          case rel => exact ⟨k + 1, by omega, by rw [HS.out], hN⟩
          case measure => rw [hN.pos, hR.pos]; omega
        · have h122' : 122 < c := by omega
          have h127 : c ≤ 127 := by omega
          clear h97 h122
          go_wp2_with (first | (go_at_call 12; refine (upper_over c _ h122' h127).mono ?_; rintro e w' ⟨rfl, rfl⟩) | (at_builtin; refine wpList_append_own _ rfl _ _ 26 rfl (w.heap.size + 1) 21 i0 (.int .i32 0) 1 4 Tryd.underlying26 hi hz0 hz1 hz2 rfl (by decide) _ _ _ rfl (hR.own (.int .i32 (c))) ⟨(wr.iterAt w.heap.size s (k + 1)).heap.size, 0, none⟩ 1 1 [.int .i32 (c)] rfl rfl ?c14 ?c24 ?c34 ?c44 ?c54 ?_))
          case c14 => exact cell_one_new _ _ _
          case c24 => intro u hu; simp at hu; subst hu; rfl
          case c34 => unfold maxLen; omega
          case c44 => omega
          case c54 => have := hR.size; simp [Lib.iterAt_size]; omega
          intro v' w1 hown' hgrow _
          have hN : Rel s w (k + 1) v' w1 := hR.add (b := false) (by rw [HC.out]; exact st_same s k (by rw [← HC.out]; exact H95.out) (fun h => by rw [← HC.out] at h; omega)) hown' hgrow
          have HS : Hid (st s (k + 1) = ((st s k).1 ++ [c], false)) := Lib.hid (by rw [HC.out]; exact st_same s k (by rw [← HC.out]; exact H95.out) (fun h => by rw [← HC.out] at h; omega))
          clear hown' hgrow hnx
          go_wp2
          go_roundw
          case rel => exact ⟨k + 1, by omega, by rw [HS.out], hN⟩
          case measure => rw [hN.pos, hR.pos]; omega
    · have hkl : k = s.size := by omega
      subst hkl
      have hnx : ∀ ty, (Instr.next (.pointer (some ⟨w.heap.size, 0, none⟩)) true ty).run Tryd.prog wr = .ok (.tuple #[.bool false]) wr := fun ty => Lib.run_next_end_at wr w.heap.size s s.size ty hR.2.1 hlt
      have hcv := conv_own hR.1
      go_wp2_with (simp only [hcv])
      go_ret
      exact ⟨by rw [J_runes s HA.out]; rfl, hR.2.2⟩
end Go.Proofs.YtnclklfhjbkjhaaDoor.Plain
