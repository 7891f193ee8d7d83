/-
  FnJsonName and FnEntryName: what a field's JSON name is, byte by byte; the walks of plainText14 and of the reference's Json, which come to it. Conditions: a text of at most 2147483647 bytes.
-/
import Derived.Test.YtnclklfhjbkjhaaDoorProg
import Derived.WalkKit
import Derived.WalkSmall
import Derived.Lib.Hide
import Derived.Laws.Cover4
import Derived.Laws.BytesArg
import Derived.Laws.BytesString
namespace Go.Proofs.YtnclklfhjbkjhaaDoor.Plain
open Go.RowKit

/-- The i-th byte as a number; behind the end 0. -/
def bt (s : ByteArray) (i : Int) : Int := if h : i.toNat < s.size then ((s[i.toNat]'h).toNat : Int) else 0
theorem bt_nat (s : ByteArray) (i : Nat) : ∀ h : i < s.size, ((s[i]'h).toNat : Int) = bt s (i : Int) := fun h => by
  unfold bt
  have e : ((i : Int)).toNat = i := by omega
  rw [dif_pos (by omega)]
  simp only [e]
theorem bt_range (s : ByteArray) (i : Int) : 0 ≤ bt s i ∧ bt s i ≤ 255 := by
  unfold bt
  split
  · rename_i h
    have := (s[i.toNat]'h).toNat_lt
    omega
  · omega

/-- What stands behind i bytes: the numbers so far, and whether the next letter is to be a capital. -/
def st (s : ByteArray) : Nat → List Int × Bool
  | 0 => ([], false)
  | i + 1 => if bt s (i : Int) = 95 then ((st s i).1, true) else ((st s i).1 ++ [if (st s i).2 = true ∧ 97 ≤ bt s (i : Int) ∧ bt s (i : Int) ≤ 122 then bt s (i : Int) - 32 else bt s (i : Int)], false)
theorem st_under (s : ByteArray) (i : Nat) (h : bt s (i : Int) = 95) : st s (i + 1) = ((st s i).1, true) := by rw [st, if_pos h]
theorem st_cap (s : ByteArray) (i : Nat) (h : ¬ bt s (i : Int) = 95) (hu : (st s i).2 = true) (h1 : 97 ≤ bt s (i : Int)) (h2 : bt s (i : Int) ≤ 122) : st s (i + 1) = ((st s i).1 ++ [bt s (i : Int) - 32], false) := by
  rw [st, if_neg h, if_pos ⟨hu, h1, h2⟩]
theorem st_same (s : ByteArray) (i : Nat) (h : ¬ bt s (i : Int) = 95) (hn : ¬ ((st s i).2 = true ∧ 97 ≤ bt s (i : Int) ∧ bt s (i : Int) ≤ 122)) : st s (i + 1) = ((st s i).1 ++ [bt s (i : Int)], false) := by
  rw [st, if_neg h, if_neg hn]
theorem st_len (s : ByteArray) : ∀ i, (st s i).1.length ≤ i
  | 0 => Nat.le_refl _
  | i + 1 => by
    have := st_len s i
    rw [st]
    split
    · exact Nat.le_succ_of_le this
    · simp; exact this
/-- Every number is one of ASCII. -/
def Small (l : List Int) : Prop := ∀ x ∈ l, 0 ≤ x ∧ x < 128
def Ascii (s : ByteArray) : Prop := ∀ j : Nat, j < s.size → bt s (j : Int) < 128
theorem st_small (s : ByteArray) (ha : Ascii s) : ∀ i, i ≤ s.size → Small (st s i).1
  | 0, _ => fun x h => by cases h
  | i + 1, hi => by
    have ih := st_small s ha i (by omega)
    have h0 := (bt_range s (i : Int)).1
    have h1 := ha i (by omega)
    rw [st]
    split
    · exact ih
    · intro x hx
      rcases List.mem_append.1 hx with h | h
      · exact ih x h
      · obtain rfl := List.mem_singleton.1 h
        split <;> omega

theorem strOfNums_append (a b : List Int) : strOfNums (a ++ b) = strOfNums a ++ strOfNums b := by
  apply ByteArray.ext
  apply Array.ext'
  rw [ByteArray.data_append, Array.toList_append, strOfNums_data, strOfNums_data, strOfNums_data, List.map_append]
theorem encode_small (n : Int) (h0 : 0 ≤ n) (h1 : n < 128) : Utf8.encode n = strOfNums [n] := by
  have hv : Utf8.valid n = true := by rw [validRune_eq]; exact decide_eq_true (.inl ⟨h0, by omega⟩)
  unfold Utf8.encode
  rw [if_pos hv]
  simp only []
  rw [if_pos (by omega)]
  rfl
theorem runes_foldl : ∀ (l : List Int) (r : ByteArray), Small l → l.foldl (fun r n => r ++ Utf8.encode n) r = r ++ strOfNums l
  | [], r, _ => by
    have : strOfNums [] = ByteArray.empty := rfl
    rw [this, ByteArray.append_empty]; rfl
  | n :: l, r, h => by
    have hn := h n (by simp)
    rw [List.foldl_cons, runes_foldl l _ (fun x hx => h x (by simp [hx])), encode_small n hn.1 hn.2, ByteArray.append_assoc, ← strOfNums_append]
    rfl
theorem runes_small (l : List Int) (h : Small l) : runesBytes l = strOfNums l := by
  unfold runesBytes
  rw [runes_foldl l _ h, ByteArray.empty_append]

/-- The JSON name. -/
def J (s : ByteArray) : ByteArray := strOfNums (st s s.size).1
theorem J_size (s : ByteArray) : (J s).size ≤ s.size := by
  unfold J; rw [strOfNums_size]; exact st_len s s.size
theorem J_runes (s : ByteArray) (ha : Ascii s) : runesBytes (st s s.size).1 = J s := runes_small _ (st_small s ha s.size (Nat.le_refl _))
theorem bt_nums (l : List Int) (h : Small l) (j : Nat) (hj : j < l.length) : bt (strOfNums l) (j : Int) = l[j] := by
  have hs : j < (strOfNums l).size := by rw [strOfNums_size]; exact hj
  unfold bt
  rw [dif_pos (by omega)]
  have e : (strOfNums l)[((j : Int)).toNat]'(by omega) = UInt8.ofNat (l[j]).toNat := by
    have : ((j : Int)).toNat = j := by omega
    simp only [this]
    rw [ByteArray.getElem_eq_getElem_data]
    simp [strOfNums]
  rw [e]
  have := h l[j] (List.getElem_mem _)
  simp
  omega
theorem J_ascii (s : ByteArray) (ha : Ascii s) : Ascii (J s) := by
  intro j hj
  have hl : j < (st s s.size).1.length := by unfold J at hj; rw [strOfNums_size] at hj; exact hj
  have hs := st_small s ha s.size (Nat.le_refl _)
  unfold J
  rw [bt_nums _ hs j hl]
  exact (hs _ (List.getElem_mem _)).2


/-! ### plainText14 -/
def PlainPost (s : ByteArray) (w : World) (e : Ending) (w' : World) : Prop := ∃ b : Bool, e = .returned (.bool b) ∧ (b = true → (s.size : Int) ≤ 1000 ∧ Ascii s) ∧ w = w'

set_option maxHeartbeats 1600000 in
set_option maxRecDepth 100000 in
theorem plain14_any (s : ByteArray) (w : World) (hs : s.size ≤ 2147483647) : Calls Tryd.prog 5 #[.string s, .int .i64 1000] w (PlainPost s w) := by
  go_enter Tryd.func5, Tryd.ntmps5
  go_wp2
  go_loop [5] (fun i => ∃ k : Nat, k ≤ s.size ∧ i = .int .i64 k ∧ Hid (∀ j : Nat, j < k → bt s (j : Int) < 128)) (fun i => s.size - (intOf i).toNat)
  case atStart => exact ⟨0, Nat.zero_le _, rfl, Lib.hid (fun j hj => by omega)⟩
  case round =>
    obtain ⟨k, hk, rfl, hall⟩ := hrel
    by_cases hlt : k < s.size
    · have hx := bt_nat s k
      have h0 := (bt_range s (k : Int)).1
      have HN := Lib.hid (fun (h : bt s (k : Int) ≤ 126) => show ∀ j : Nat, j < k + 1 → bt s (j : Int) < 128 from fun j hj => by
        by_cases e : j = k
        · subst e; omega
        · exact hall.out j (by omega))
      generalize bt s (k : Int) = c at *
      by_cases h126 : 126 < c
      · go_wp2
        go_ret
        exact ⟨false, rfl, (fun h => by cases h), rfl⟩
      · have h126' : c ≤ 126 := by omega
        have HM := Lib.hid (HN.out h126')
        clear h126 HN
        by_cases h32 : c < 32
        · go_wp2
          go_ret
          exact ⟨false, rfl, (fun h => by cases h), rfl⟩
        · have h32' : 32 ≤ c := by omega
          clear h32
          go_wp2
          go_round
          case rel => exact ⟨k + 1, by omega, by go_num, HM⟩
          case measure => simp [intOf]; omega
    · obtain rfl : k = s.size := by omega
      by_cases hz : 0 < s.size
      · by_cases hm : (s.size : Int) ≤ 1000
        · go_wp2
          go_ret
          exact ⟨true, rfl, fun _ => ⟨hm, fun j hj => hall.out j hj⟩, rfl⟩
        · have hm' : (1000 : Int) < (s.size : Int) := by omega
          have hd : decide ((s.size : Int) ≤ 1000) = false := decide_eq_false hm
          have hd2 : decide (s.size ≤ 1000) = false := decide_eq_false (by omega)
          clear hm
          go_wp2
          go_ret
          exact ⟨false, rfl, (fun h => by cases h), rfl⟩
      · have hz' : s.size = 0 := by omega
        go_wp2
        go_ret
        exact ⟨false, rfl, (fun h => by cases h), rfl⟩

/-! ### Json -/
theorem conv_byte (W : World) (a : Addr) (cap : Nat) (x : Int) (hc : W.cell? a = some (.int .u8 x)) (ha : a.add 0 = a) :
    (convert 25 9 (.slice (some a) 1 cap)).run Tryd.prog W = .ok (.string (strOfNums [x])) W := by
  rw [run_convert_bytes_string W 25 9 5 (some a) 1 cap Tryd.underlying25 Tryd.underlying5 Tryd.underlying9]
  have hl := run_loadCells_list (P := Tryd.prog) W a ([x].map (Value.int .u8)) (fun j v hj => by
    have hj0 : j = 0 := by
      rcases Nat.eq_zero_or_pos j with h | h
      · exact h
      · rw [List.getElem?_eq_none (by show 1 ≤ j; omega)] at hj; cases hj
    subst hj0
    rw [ha, hc]
    simpa using hj)
  rw [run_bytesToString W a 1 cap [x] (by simpa using hl)]
  rfl

set_option maxHeartbeats 3200000 in
set_option maxRecDepth 100000 in
theorem json_any (s : ByteArray) (w : World) (hs : s.size ≤ 2147483647) : Calls Tryd.prog 7 #[.string s] w fun e w' => e = .returned (.string (J s)) ∧ Below w.heap.size w w' := by
  go_enter Tryd.func7, Tryd.ntmps7
  go_wp2
  go_loopw [3, 4, 5] (fun t up i wr => ∃ k : Nat, k ≤ s.size ∧ i = .int .i64 k ∧ t = .string (strOfNums (st s k).1) ∧ up = .bool (st s k).2 ∧ Below w.heap.size w wr) (fun _ _ i _ => s.size - (intOf i).toNat)
  case atStart => exact ⟨0, Nat.zero_le _, rfl, rfl, rfl, Below.refl _ _⟩
  case round =>
    obtain ⟨k, hk, rfl, rfl, rfl, hbel⟩ := hrel
    by_cases hlt : k < s.size
    · have hx := bt_nat s k
      have h0 := (bt_range s (k : Int)).1
      have h255 := (bt_range s (k : Int)).2
      have hln := st_len s k
      obtain ⟨c, hc⟩ : ∃ c, c = bt s (k : Int) := ⟨_, rfl⟩
      rw [← hc] at hx h0 h255
      generalize hb : (st s k).2 = b
      have HB := Lib.hid hb
      have HC := Lib.hid hc
      clear hb hc
      by_cases h95 : c = 95
      · have hc95 : (c == 95) = true := by simpa using h95
        have hs1 : st s (k + 1) = ((st s k).1, true) := st_under s k (by rw [← HC.out]; exact h95)
        have hV : strOfNums (st s (k + 1)).1 = strOfNums (st s k).1 := by rw [hs1]
        have hU : (st s (k + 1)).2 = true := by rw [hs1]
        have HV := Lib.hid hV
        have HU := Lib.hid hU
        clear h95 hs1 hV hU
        generalize strOfNums (st s k).1 = T at *
        go_wp2
        go_roundw
        case rel => exact ⟨k + 1, by omega, by go_num, by rw [HV.out], by rw [HU.out], hbel⟩
        case measure => simp [intOf]; omega
      have hc95 : (c == 95) = false := by simpa using h95
      have H95 := Lib.hid h95
      clear h95
      cases b with
      | false =>
        have hs1 : st s (k + 1) = ((st s k).1 ++ [c], false) := by rw [HC.out]; exact st_same s k (by rw [← HC.out]; exact H95.out) (fun h => by rw [HB.out] at h; cases h.1)
        have hV : strOfNums (st s (k + 1)).1 = strOfNums (st s k).1 ++ strOfNums [c] := by rw [hs1]; exact strOfNums_append _ _
        have hU : (st s (k + 1)).2 = false := by rw [hs1]
        have hsum : (strOfNums (st s k).1).size + (strOfNums [c]).size ≤ 9223372036854775807 := by rw [strOfNums_size, strOfNums_size]; simp; omega
        have hcv : (convert 25 9 (.slice (some ⟨wr.heap.size, 0, none⟩) 1 1)).run Tryd.prog (wr.alloc (.cells #[.int .u8 (c)] 5)) = .ok (.string (strOfNums [c])) (wr.alloc (.cells #[.int .u8 (c)] 5)) :=
          conv_byte _ _ _ _ (by simp) rfl
        have HV := Lib.hid hV
        have HU := Lib.hid hU
        clear hs1 hV hU
        generalize strOfNums [c] = U at *
        generalize strOfNums (st s k).1 = T at *
        go_wp2
        go_roundw
        case rel => exact ⟨k + 1, by omega, by go_num, by rw [HV.out], by rw [HU.out], hbel.alloc hbel.size _⟩
        case measure => simp [intOf]; omega
      | true =>
        by_cases h97 : c < 97
        · skip
          have hs1 : st s (k + 1) = ((st s k).1 ++ [c], false) := by rw [HC.out]; exact st_same s k (by rw [← HC.out]; exact H95.out) (fun h => by rw [← HC.out] at h; omega)
          have hV : strOfNums (st s (k + 1)).1 = strOfNums (st s k).1 ++ strOfNums [c] := by rw [hs1]; exact strOfNums_append _ _
          have hU : (st s (k + 1)).2 = false := by rw [hs1]
          have hsum : (strOfNums (st s k).1).size + (strOfNums [c]).size ≤ 9223372036854775807 := by rw [strOfNums_size, strOfNums_size]; simp; omega
          have hcv : (convert 25 9 (.slice (some ⟨wr.heap.size, 0, none⟩) 1 1)).run Tryd.prog (wr.alloc (.cells #[.int .u8 (c)] 5)) = .ok (.string (strOfNums [c])) (wr.alloc (.cells #[.int .u8 (c)] 5)) :=
            conv_byte _ _ _ _ (by simp) rfl
          have HV := Lib.hid hV
          have HU := Lib.hid hU
          clear hs1 hV hU
          generalize strOfNums [c] = U at *
          generalize strOfNums (st s k).1 = T at *
          go_wp2
          go_roundw
          case rel => exact ⟨k + 1, by omega, by go_num, by rw [HV.out], by rw [HU.out], hbel.alloc hbel.size _⟩
          case measure => simp [intOf]; omega
        have h97' : 97 ≤ c := by omega
        clear h97
        by_cases h122 : c ≤ 122
        · skip
          have hs1 : st s (k + 1) = ((st s k).1 ++ [c - 32], false) := by rw [HC.out]; exact st_cap s k (by rw [← HC.out]; exact H95.out) HB.out (by rw [← HC.out]; exact h97') (by rw [← HC.out]; exact h122)
          have hV : strOfNums (st s (k + 1)).1 = strOfNums (st s k).1 ++ strOfNums [c - 32] := by rw [hs1]; exact strOfNums_append _ _
          have hU : (st s (k + 1)).2 = false := by rw [hs1]
          have hsum : (strOfNums (st s k).1).size + (strOfNums [c - 32]).size ≤ 9223372036854775807 := by rw [strOfNums_size, strOfNums_size]; simp; omega
          have hcv : (convert 25 9 (.slice (some ⟨wr.heap.size, 0, none⟩) 1 1)).run Tryd.prog (wr.alloc (.cells #[.int .u8 (c - 32)] 5)) = .ok (.string (strOfNums [c - 32])) (wr.alloc (.cells #[.int .u8 (c - 32)] 5)) :=
            conv_byte _ _ _ _ (by simp) rfl
          have HV := Lib.hid hV
          have HU := Lib.hid hU
          clear hs1 hV hU
          generalize strOfNums [c - 32] = U at *
          generalize strOfNums (st s k).1 = T at *
          go_wp2
          go_roundw
          case rel => exact ⟨k + 1, by omega, by go_num, by rw [HV.out], by rw [HU.out], hbel.alloc hbel.size _⟩
          case measure => simp [intOf]; omega
        · have h122' : 122 < c := by omega
          clear h122
          have hs1 : st s (k + 1) = ((st s k).1 ++ [c], false) := by rw [HC.out]; exact st_same s k (by rw [← HC.out]; exact H95.out) (fun h => by rw [← HC.out] at h; omega)
          have hV : strOfNums (st s (k + 1)).1 = strOfNums (st s k).1 ++ strOfNums [c] := by rw [hs1]; exact strOfNums_append _ _
          have hU : (st s (k + 1)).2 = false := by rw [hs1]
          have hsum : (strOfNums (st s k).1).size + (strOfNums [c]).size ≤ 9223372036854775807 := by rw [strOfNums_size, strOfNums_size]; simp; omega
          have hcv : (convert 25 9 (.slice (some ⟨wr.heap.size, 0, none⟩) 1 1)).run Tryd.prog (wr.alloc (.cells #[.int .u8 (c)] 5)) = .ok (.string (strOfNums [c])) (wr.alloc (.cells #[.int .u8 (c)] 5)) :=
            conv_byte _ _ _ _ (by simp) rfl
          have HV := Lib.hid hV
          have HU := Lib.hid hU
          clear hs1 hV hU
          generalize strOfNums [c] = U at *
          generalize strOfNums (st s k).1 = T at *
          go_wp2
          go_roundw
          case rel => exact ⟨k + 1, by omega, by go_num, by rw [HV.out], by rw [HU.out], hbel.alloc hbel.size _⟩
          case measure => simp [intOf]; omega
    · obtain rfl : k = s.size := by omega
      go_wp2
      go_ret
      exact ⟨rfl, hbel⟩
end Go.Proofs.YtnclklfhjbkjhaaDoor.Plain
