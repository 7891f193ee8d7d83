/-
  FnPrefixes, the walk of CreatePrefixList: the package, what its dots cut off, the empty text. Condition: a text of at most 2147483647 bytes.
-/
import Derived.Test.YtnclklfhjbkjhaaTexts
import Derived.OwnWalk
import Derived.Laws.OwnMore
import Derived.Maps.AppendAt
namespace Go.Proofs.Ytnclklfhjbkjhaa.Walk
open Go.RowKit

theorem info9 : (Try.prog.info? 9).map (fun i => (i.zero, i.size, i.bytes)) = some (some (.string ⟨#[]⟩), 1, 16) := by kernel_rfl

theorem own_rd {w : World} {base g n cap : Nat} {ss : List ByteArray} (h : w.ownsRow base 9 1 (.slice (some ⟨g, 0, none⟩) n cap) n (ss.map Value.string)) : Rd w (some ⟨g, 0, none⟩) ss := fun _ =>
  ⟨⟨g, 0, none⟩, rfl, fun j s hs => h.cells (g := g) rfl j _ (by rw [List.getElem?_map, hs]; rfl)⟩
theorem own_len {w : World} {base g n cap : Nat} {ss : List ByteArray} (h : w.ownsRow base 9 1 (.slice (some ⟨g, 0, none⟩) n cap) n (ss.map Value.string)) : ss.length = n := by
  have := h.1
  simpa using this

def ListPost (s : ByteArray) (w : World) (e : Ending) (w' : World) : Prop :=
  ∃ g cap : Nat, e = .returned (.slice (some ⟨g, 0, none⟩) (pre s).length cap) ∧ w.heap.size ≤ g ∧ g < w'.heap.size ∧ Rd w' (some ⟨g, 0, none⟩) (pre s) ∧ Below w.heap.size w w'

theorem post_of {s : ByteArray} {w w' : World} {base g n cap : Nat} {ss : List ByteArray} (hs : pre s = ss) (h : w'.ownsRow base 9 1 (.slice (some ⟨g, 0, none⟩) n cap) n (ss.map Value.string)) (hg : w.heap.size ≤ g) (hb : Below w.heap.size w w') :
    ListPost s w (.returned (.slice (some ⟨g, 0, none⟩) n cap)) w' := by
  subst hs
  refine ⟨g, cap, by rw [own_len h], hg, ?_, own_rd h, hb⟩
  have := h.lt g (by simp [Value.ownBlock])
  exact this.2

set_option maxHeartbeats 1600000 in
set_option maxRecDepth 100000 in
theorem list_empty (w : World) : Calls Try.prog 9 #[.string ⟨#[]⟩] w (ListPost ⟨#[]⟩ w) := by
  go_enter Try.func9, Try.ntmps9
  go_wp2
  go_ret
  exact post_of (ss := [⟨#[]⟩]) rfl (World.ownsRow_lit w #[.string ⟨#[]⟩] 1 (Nat.le_refl _) (by decide) rfl) (Nat.le_refl _) ((Below.refl _ w).alloc (Nat.le_refl _) _)

/-- What stands behind k bytes of the second loop: m texts still to come. -/
def row (s : ByteArray) (m k : Nat) : List ByteArray := List.replicate (m + 1) (⟨#[]⟩ : ByteArray) ++ cuts s k ++ [⟨#[]⟩]
theorem row_hit (s : ByteArray) (m k : Nat) (h : bt s (k : Int) = 46) : (row s (m + 1) k).set (m + 1) (s.extract 0 k) = row s m (k + 1) := by
  unfold row
  rw [cuts_hit s k h, List.replicate_succ', List.append_assoc, List.append_assoc, List.append_assoc]
  rw [List.set_append_right _ _ (by simp)]
  simp
theorem row_at (s : ByteArray) (m k : Nat) : (row s m k)[m]? = some ⟨#[]⟩ := by
  unfold row
  rw [List.append_assoc, List.getElem?_append_left (by simp), List.getElem?_replicate, if_pos (by omega)]
theorem row_end (s : ByteArray) : (row s 0 s.size).set 0 s = s :: cuts s s.size ++ [⟨#[]⟩] := by unfold row; rfl
theorem set_map (l : List ByteArray) (j : Nat) (t : ByteArray) : (l.map Value.string).set j (.string t) = (l.set j t).map Value.string := by rw [List.map_set]

set_option maxHeartbeats 6400000 in
set_option maxRecDepth 100000 in
theorem list_some (s : ByteArray) (w : World) (hs : s.size ≤ 2147483647) (h0 : 0 < s.size) : Calls Try.prog 9 #[.string s] w (ListPost s w) := by
  obtain ⟨i0, hi, hz0, hz1, hz2⟩ := info_parts info9
  have hne : s.toList ≠ [] := fun e => by have := (toList_nil s).1 e; omega
  have hn0 : (s.toList == ([] : List UInt8)) = false := beq_eq_false_iff_ne.mpr hne
  have hn1 : s.toList.isEmpty = false := by rw [List.isEmpty_eq_false_iff]; exact hne
  have HP : Hid (pre s = s :: cuts s s.size ++ [⟨#[]⟩]) := Lib.hid (by unfold pre; rw [if_neg (by omega)])
  clear hne
  go_enter Try.func9, Try.ntmps9
  go_wp2
  go_loop [3, 4] (fun n i => ∃ k : Nat, k ≤ s.size ∧ i = .int .i64 k ∧ n = .int .i64 (cuts s k).length) (fun _ i => s.size - (intOf i).toNat)
  case atStart => exact ⟨0, Nat.zero_le _, rfl, rfl⟩
  case round =>
    obtain ⟨k, hk, rfl, rfl⟩ := hrel
    have hln := cuts_len s k
    by_cases hlt : k < s.size
    · have hx := bt_nat s k
      obtain ⟨c, hc⟩ : ∃ c, c = bt s (k : Int) := ⟨_, rfl⟩
      rw [← hc] at hx
      have HC := Lib.hid hc
      clear hc
      by_cases h46 : c = 46
      · have hb : (c == 46) = true := by simpa using h46
        have HS : Hid ((cuts s (k + 1)).length = (cuts s k).length + 1) := Lib.hid (by rw [cuts_hit s k (by rw [← HC.out]; exact h46)]; rfl)
        clear h46
        go_wp2
        go_round
        case rel => exact ⟨k + 1, by omega, by go_num, by rw [HS.out]; go_num⟩
        case measure => simp [intOf]; omega
      · have hb : (c == 46) = false := by simpa using h46
        have HS : Hid ((cuts s (k + 1)).length = (cuts s k).length) := Lib.hid (by rw [cuts_miss s k (by rw [← HC.out]; exact h46)])
        clear h46
        go_wp2
        go_round
        case rel => exact ⟨k + 1, by omega, by go_num, by rw [HS.out]⟩
        case measure => simp [intOf]; omega
    · obtain rfl : k = s.size := by omega
      obtain ⟨D, hD⟩ : ∃ D, D = (cuts s s.size).length := ⟨_, rfl⟩
      rw [← hD] at hln ⊢
      have HD := Lib.hid hD
      clear hD
      by_cases hz : D = 0
      · subst hz
        go_wp2
        go_ret
        have hnil : cuts s s.size = [] := List.eq_nil_of_length_eq_zero HD.out.symm
        exact post_of (ss := [s, ⟨#[]⟩]) (by rw [HP.out, hnil]; rfl) (World.ownsRow_lit w #[.string s, .string ⟨#[]⟩] 2 (Nat.le_refl _) (by decide) rfl) (Nat.le_refl _) ((Below.refl _ w).alloc (Nat.le_refl _) _)
      · have hDb : ((D : Int) == 0) = false := by simpa using hz
        have hpos : 0 < D := by omega
        clear hz
        go_wp2_with (at_make; refine wpList_make_full _ rfl _ _ 22 rfl w.heap.size 9 i0 (.string ⟨#[]⟩) 1 Try.underlying22 hi hz0 hz1 .i64 .i64 ((D : Int) + 2) ((D : Int) + 2) (D + 2) rfl rfl (by omega) (by omega) ?b2 ?b3 ?b4 ?_)
        case b2 => omega
        case b3 => unfold maxLen; omega
        intro w1 hown hgrow
        have hstart : w1.ownsRow w.heap.size 9 1 (.slice (some ⟨w.heap.size, 0, none⟩) (D + 2) (D + 2)) (D + 2) ((row s D 0).map Value.string) := by
          have e : (madeCells #[Value.string ⟨#[]⟩] (D + 2)).toList = (row s D 0).map Value.string := by
            rw [toList_madeCells_one]
            unfold row
            rw [show cuts s 0 = [] from rfl, List.append_nil, List.map_append, List.map_replicate, List.replicate_succ']
            rfl
          rw [← e]
          exact hown
        have hbel : Below w.heap.size w w1 := (Below.refl _ w).grown hgrow (Nat.le_refl _) (fun _ h => by cases h)
        have HO := Lib.hid hstart
        clear hown hgrow hstart
        go_wp2
        go_loopw [3, 6] (fun n i wr => ∃ k m : Nat, k ≤ s.size ∧ i = .int .i64 k ∧ n = .int .i64 m ∧ Hid (m + (cuts s k).length = D) ∧ Hid (wr.ownsRow w.heap.size 9 1 (.slice (some ⟨w.heap.size, 0, none⟩) (D + 2) (D + 2)) (D + 2) ((row s m k).map Value.string)) ∧ Below w.heap.size w wr) (fun _ i _ => s.size - (intOf i).toNat)
        case atStart => exact ⟨0, D, Nat.zero_le _, rfl, rfl, Lib.hid rfl, HO, hbel⟩
        case round =>
          obtain ⟨k, m, hk, rfl, rfl, HM, HR, hbr⟩ := hrel
          by_cases hlt : k < s.size
          · have hx := bt_nat s k
            have hmD : m ≤ D := by have := HM.out; omega
            obtain ⟨c, hc⟩ : ∃ c, c = bt s (k : Int) := ⟨_, rfl⟩
            rw [← hc] at hx
            have HC := Lib.hid hc
            clear hc
            by_cases h46 : c = 46
            · have hb : (c == 46) = true := by simpa using h46
              have hdot : bt s (k : Int) = 46 := by rw [← HC.out]; exact h46
              have hgr := cuts_grow s (k + 1) (s.size - (k + 1))
              rw [show k + 1 + (s.size - (k + 1)) = s.size by omega, cuts_hit s k hdot, ← HD.out] at hgr
              obtain ⟨q, rfl⟩ : ∃ q, m = q + 1 := ⟨m - 1, by have := HM.out; simp at hgr; omega⟩
              have HM1 : Hid (q + (cuts s (k + 1)).length = D) := Lib.hid (by have := HM.out; rw [cuts_hit s k hdot]; simp; omega)
              have hcell : wr.cell? ⟨w.heap.size, q + 1, none⟩ = some (.string ⟨#[]⟩) := by rw [HR.out.cellAt (q + 1) (by omega), List.getElem?_map, row_at]; rfl
              have hfz : wr.frozen? ⟨w.heap.size, q + 1, none⟩ = false := HR.out.frozenAt (q + 1)
              have HR1 : Hid ((wr.setCell ⟨w.heap.size, q + 1, none⟩ (.string (s.extract 0 k))).ownsRow w.heap.size 9 1 (.slice (some ⟨w.heap.size, 0, none⟩) (D + 2) (D + 2)) (D + 2) ((row s q (k + 1)).map Value.string)) :=
                Lib.hid (by have := (HR.out.stored (q + 1) (.string (s.extract 0 k))).1; rw [set_map, row_hit s q k hdot] at this; exact this)
              have hkle : (k : Int) ≤ (s.size : Int) := by omega
              have hlen : q + 1 < D + 2 := by omega
              have hlen2 : ((q + 1 : Nat) : Int) < ((D + 2 : Nat) : Int) := by omega
              clear h46 hdot hgr
              go_wp2
              go_roundw
              case rel => exact ⟨k + 1, q, by omega, by go_num, by go_num, HM1, HR1, hbr.setCell (Nat.le_refl _) _⟩
              case measure => simp [intOf]; omega
            · have hb : (c == 46) = false := by simpa using h46
              have hno : ¬ bt s (k : Int) = 46 := by rw [← HC.out]; exact h46
              have HM1 : Hid (m + (cuts s (k + 1)).length = D) := Lib.hid (by rw [cuts_miss s k hno]; exact HM.out)
              have HR1 : Hid (wr.ownsRow w.heap.size 9 1 (.slice (some ⟨w.heap.size, 0, none⟩) (D + 2) (D + 2)) (D + 2) ((row s m (k + 1)).map Value.string)) :=
                Lib.hid (by unfold row; rw [cuts_miss s k hno]; exact HR.out)
              clear h46 hno
              go_wp2
              go_roundw
              case rel => exact ⟨k + 1, m, by omega, by go_num, rfl, HM1, HR1, hbr⟩
              case measure => simp [intOf]; omega
          · obtain rfl : k = s.size := by omega
            obtain rfl : m = 0 := by have := HM.out; rw [← HD.out] at this; omega
            have hcell : wr.cell? ⟨w.heap.size, 0, none⟩ = some (.string ⟨#[]⟩) := by rw [HR.out.cellAt 0 (by omega), List.getElem?_map, row_at]; rfl
            have hfz : wr.frozen? ⟨w.heap.size, 0, none⟩ = false := HR.out.frozenAt 0
            have HR1 : Hid ((wr.setCell ⟨w.heap.size, 0, none⟩ (.string s)).ownsRow w.heap.size 9 1 (.slice (some ⟨w.heap.size, 0, none⟩) (D + 2) (D + 2)) (D + 2) ((s :: cuts s s.size ++ [(⟨#[]⟩ : ByteArray)]).map Value.string)) :=
              Lib.hid (by have := (HR.out.stored 0 (.string s)).1; rw [set_map, row_end] at this; exact this)
            have hlen : 0 < D + 2 := by omega
            go_wp2
            go_ret
            exact post_of HP.out HR1.out (Nat.le_refl _) (hbr.setCell (Nat.le_refl _) _)

theorem list_any (s : ByteArray) (w : World) (hs : s.size ≤ 2147483647) : Calls Try.prog 9 #[.string s] w (ListPost s w) := by
  by_cases h : s.size = 0
  · have e : s = ⟨#[]⟩ := ByteArray.size_eq_zero_iff.1 h
    subst e
    exact list_empty w
  · exact list_some s w hs (by omega)

set_option maxRecDepth 100000 in
theorem prefixes8_any (s : ByteArray) (w : World) (hs : s.size ≤ 2147483647) : Calls Try.prog 8 #[.string s] w (ListPost s w) := by
  have HL := Lib.hid (list_any s w hs)
  go_enter Try.func8, Try.ntmps8
  go_wp2_with fail
  refine HL.out.mono ?_
  rintro e w1 ⟨g, cap, rfl, h1, h2, h3, h4⟩
  go_wp2_with fail
  go_ret
  exact ⟨g, cap, rfl, h1, h2, h3, h4⟩
end Go.Proofs.Ytnclklfhjbkjhaa.Walk
