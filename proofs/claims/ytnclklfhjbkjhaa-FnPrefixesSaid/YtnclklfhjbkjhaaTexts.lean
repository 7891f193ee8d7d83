/-
  FnPrefixes, the walks of zzFits1, plainText14, Last and sameTexts14. Conditions: a slice of texts that reads as a list; texts of at most 2147483647 bytes.
-/
import Derived.Test.YtnclklfhjbkjhaaProg
import Derived.Test.YtnclklfhjbkjhaaCuts
import Derived.WalkKit
import Derived.WalkSmall
import Derived.WalkSpells
import Derived.Lib.Hide
import Derived.Deep.QuietTactic
import Derived.BigQuiet
namespace Go.Proofs.Ytnclklfhjbkjhaa.Walk
open Go.RowKit

/-- A slice of texts that reads as a list. -/
def Rd (w : World) (A : Option Addr) (ss : List ByteArray) : Prop := 0 < ss.length → ∃ ad, A = some ad ∧ ∀ (j : Nat) (s : ByteArray), ss[j]? = some s → w.cell? (ad.add j) = some (.string s)
theorem Rd.below {w w' : World} {A : Option Addr} {ss : List ByteArray} (h : Rd w A ss) (hb : Below w.heap.size w w') : Rd w' A ss := fun hn => by
  obtain ⟨ad, e, hc⟩ := h hn
  exact ⟨ad, e, fun j s hs => (hb.cell (World.block_lt_of_cell? w _ (hc j s hs))).trans (hc j s hs)⟩
theorem Rd.at_ {w : World} {A : Option Addr} {ss : List ByteArray} (h : Rd w A ss) {k : Nat} (hk : k < ss.length) : ∃ ad s, A = some ad ∧ ss[k]? = some s ∧ w.cell? (ad.add k) = some (.string s) := by
  obtain ⟨ad, e, hc⟩ := h (by omega)
  exact ⟨ad, ss[k], e, List.getElem?_eq_getElem hk, hc k _ (List.getElem?_eq_getElem hk)⟩

def FitsPost (ss : List ByteArray) (w : World) (e : Ending) (w' : World) : Prop := ∃ b : Bool, e = .returned (.bool b) ∧ (b = true → ss.length ≤ 2147483647 ∧ ∀ (j : Nat) (s : ByteArray), ss[j]? = some s → s.size ≤ 2147483647) ∧ w = w'

set_option maxHeartbeats 1600000 in
set_option maxRecDepth 100000 in
theorem fits_any (A : Option Addr) (c n : Nat) (ss : List ByteArray) (w : World) (hn : ss.length = n) (hR : Rd w A ss) : Calls Try.prog 4 #[.slice A n c] w (FitsPost ss w) := by
  by_cases hbig : 2147483647 < n
  · go_enter Try.func4, Try.ntmps4
    go_wp2
    go_ret
    exact ⟨false, rfl, (fun h => by cases h), rfl⟩
  · have hsm : n ≤ 2147483647 := by omega
    have HN := Lib.hid hn
    have HR := Lib.hid hR
    clear hbig hn hR
    go_enter Try.func4, Try.ntmps4
    go_wp2
    go_loop [10] (fun i => ∃ k : Nat, k ≤ n ∧ i = .int .i64 k ∧ Hid (∀ (j : Nat) (s : ByteArray), j < k → ss[j]? = some s → s.size ≤ 2147483647)) (fun i => n - (intOf i).toNat)
    case atStart => exact ⟨0, Nat.zero_le _, rfl, Lib.hid (fun j s hj => by omega)⟩
    case round =>
      obtain ⟨k, hk, rfl, hall⟩ := hrel
      by_cases hlt : k < n
      · obtain ⟨ad, s, hA, hs, hcell⟩ := HR.out.at_ (show k < ss.length by rw [HN.out]; exact hlt)
        cases hA
        have HS := Lib.hid hs
        clear hs
        by_cases hz : 2147483647 < s.size
        · go_wp2
          go_ret
          exact ⟨false, rfl, (fun h => by cases h), rfl⟩
        · have hz' : s.size ≤ 2147483647 := by omega
          have hnext : Hid (∀ (j : Nat) (t : ByteArray), j < k + 1 → ss[j]? = some t → t.size ≤ 2147483647) := Lib.hid (fun j t hj ht => by
            by_cases e : j = k
            · subst e
              rw [HS.out] at ht
              cases ht
              exact hz'
            · exact hall.out j t (by omega) ht)
          clear hz
          go_wp2
          go_round
          case rel => exact ⟨k + 1, by omega, by go_num, hnext⟩
          case measure => simp [intOf]; omega
      · obtain rfl : k = n := by omega
        go_wp2
        go_ret
        exact ⟨true, rfl, fun _ => ⟨by rw [HN.out]; exact hsm, fun j s hs => hall.out j s (by have := (List.getElem?_eq_some_iff.1 hs).1; rw [HN.out] at this; exact this) hs⟩, rfl⟩

def PlainPost (s : ByteArray) (w : World) (e : Ending) (w' : World) : Prop := ∃ b : Bool, e = .returned (.bool b) ∧ (b = true → 0 < s.size ∧ s.size ≤ 50) ∧ w = w'

set_option maxHeartbeats 1600000 in
set_option maxRecDepth 100000 in
theorem plain50_any (s : ByteArray) (w : World) (hs : s.size ≤ 2147483647) : Calls Try.prog 5 #[.string s, .int .i64 50] w (PlainPost s w) := by
  go_enter Try.func5, Try.ntmps5
  go_wp2
  go_loop [5] (fun i => ∃ k : Nat, k ≤ s.size ∧ i = .int .i64 k) (fun i => s.size - (intOf i).toNat)
  case atStart => exact ⟨0, Nat.zero_le _, rfl⟩
  case round =>
    obtain ⟨k, hk, rfl⟩ := hrel
    by_cases hlt : k < s.size
    · have hx := bt_nat s k
      have h0 := (bt_range s (k : Int)).1
      generalize bt s (k : Int) = c at *
      by_cases h126 : 126 < c
      · go_wp2
        go_ret
        exact ⟨false, rfl, (fun h => by cases h), rfl⟩
      · have h126' : c ≤ 126 := by omega
        clear h126
        by_cases h32 : c < 32
        · go_wp2
          go_ret
          exact ⟨false, rfl, (fun h => by cases h), rfl⟩
        · have h32' : 32 ≤ c := by omega
          clear h32
          go_wp2
          go_round
          case rel => exact ⟨k + 1, by omega, by go_num⟩
          case measure => simp [intOf]; omega
    · obtain rfl : k = s.size := by omega
      by_cases hz : 0 < s.size
      · by_cases hm : s.size ≤ 50
        · have hm' : (s.size : Int) ≤ 50 := by omega
          have HM := Lib.hid hm
          clear hm
          go_wp2
          go_ret
          exact ⟨true, rfl, fun _ => ⟨hz, HM.out⟩, rfl⟩
        · have hd : decide ((s.size : Int) ≤ 50) = false := decide_eq_false (by omega)
          have hd2 : decide (s.size ≤ 50) = false := decide_eq_false (by omega)
          clear hm
          go_wp2
          go_ret
          exact ⟨false, rfl, (fun h => by cases h), rfl⟩
      · have hz' : s.size = 0 := by omega
        go_wp2
        go_ret
        exact ⟨false, rfl, (fun h => by cases h), rfl⟩

def LastPost (s : ByteArray) (w : World) (e : Ending) (w' : World) : Prop := ∃ r : ByteArray, e = .returned (.string r) ∧ (r.size = s.size → NoDot s) ∧ w = w'

set_option maxHeartbeats 1600000 in
set_option maxRecDepth 100000 in
theorem last_any (s : ByteArray) (w : World) (hs : s.size ≤ 2147483647) : Calls Try.prog 6 #[.string s] w (LastPost s w) := by
  go_enter Try.func6, Try.ntmps6
  go_wp2
  go_loop [3] (fun i => ∃ k : Nat, k ≤ s.size ∧ i = .int .i64 ((k : Int) - 1) ∧ Hid (∀ j : Nat, k ≤ j → j < s.size → bt s (j : Int) ≠ 46)) (fun i => (intOf i + 1).toNat)
  case atStart => exact ⟨s.size, Nat.le_refl _, rfl, Lib.hid (fun j h1 h2 => by omega)⟩
  case round =>
    obtain ⟨k, hk, rfl, hall⟩ := hrel
    by_cases hpos : 0 < k
    · obtain ⟨m, rfl⟩ : ∃ m, k = m + 1 := ⟨k - 1, by omega⟩
      rw [show (((m + 1 : Nat) : Int) - 1) = (m : Int) by omega]
      have hx := bt_nat s m
      obtain ⟨c, hc⟩ : ∃ c, c = bt s (m : Int) := ⟨_, rfl⟩
      rw [← hc] at hx
      have HC := Lib.hid hc
      clear hc
      by_cases h46 : c = 46
      · have hb : (c == 46) = true := by simpa using h46
        have hle : (m : Int) + 1 ≤ (s.size : Int) := by omega
        clear h46
        go_wp2
        go_ret
        refine ⟨_, rfl, fun he => ?_, rfl⟩
        rw [ByteArray.size_extract] at he
        omega
      · have hb : (c == 46) = false := by simpa using h46
        have hnext : Hid (∀ j : Nat, m ≤ j → j < s.size → bt s (j : Int) ≠ 46) := Lib.hid (fun j h1 h2 => by
          by_cases e : j = m
          · subst e; rw [← HC.out]; exact h46
          · exact hall.out j (by omega) h2)
        clear h46
        go_wp2
        go_round
        case rel => exact ⟨m, by omega, by go_num, hnext⟩
        case measure => simp [intOf]
    · obtain rfl : k = 0 := by omega
      rw [show (((0 : Nat) : Int) - 1) = -1 by omega]
      go_wp2
      go_ret
      exact ⟨s, rfl, fun _ j h0 h1 => by
        obtain ⟨i, rfl⟩ : ∃ i : Nat, j = i := ⟨j.toNat, by omega⟩
        exact hall.out i (by omega) (by omega), rfl⟩

set_option maxHeartbeats 1600000 in
set_option maxRecDepth 100000 in
theorem same_any (A B : Option Addr) (c d n : Nat) (ss : List ByteArray) (w : World) (hn : ss.length = n) (hsm : n ≤ 2147483647) (hA : Rd w A ss) (hB : Rd w B ss) :
    Calls Try.prog 7 #[.slice A n c, .slice B n d] w fun e w' => e = .returned (.bool true) ∧ Below w.heap.size w w' := by
  have HN := Lib.hid hn
  have HA := Lib.hid hA
  have HB := Lib.hid hB
  clear hn hA hB
  go_enter Try.func7, Try.ntmps7
  go_wp2
  go_loopw [13] (fun i wr => ∃ k m : Nat, k ≤ n ∧ i = .int .i64 k ∧ wr = w.drewN m) (fun i _ => n - (intOf i).toNat)
  case atStart => exact ⟨0, 0, Nat.zero_le _, rfl, rfl⟩
  case round =>
    obtain ⟨k, m, hk, rfl, rfl⟩ := hrel
    by_cases hlt : k < n
    · obtain ⟨a, s, hA1, hs1, hc1⟩ := HA.out.at_ (show k < ss.length by rw [HN.out]; exact hlt)
      obtain ⟨b, t, hB1, ht1, hc2⟩ := HB.out.at_ (show k < ss.length by rw [HN.out]; exact hlt)
      rw [hs1] at ht1
      cases ht1
      cases hA1
      cases hB1
      clear hs1
      have hlt1 : (k : Int) < (n : Int) := by omega
      have hne : (s.toList != s.toList) = false := by simp
      go_wp2_with fail
      go_quiet (fail)
      go_wp2_with fail
      go_roundw
      case rel => exact ⟨k + 1, _, by omega, by go_num, rfl⟩
      case measure => simp [intOf]; omega
    · obtain rfl : k = n := by omega
      go_wp2
      go_ret
      exact ⟨rfl, below_drewN (Below.refl _ _) m⟩
end Go.Proofs.Ytnclklfhjbkjhaa.Walk
