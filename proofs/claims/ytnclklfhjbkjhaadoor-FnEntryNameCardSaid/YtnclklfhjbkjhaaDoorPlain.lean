/-
  FnJsonName and FnEntryName, the plain part: what a field's JSON name is, byte by byte; the printed functions plainText14 and Json come to it.
-/
import Derived.Test.YtnclklfhjbkjhaaDoorPFnJsonNamex1
import Derived.Laws.Cover4
import Derived.Laws.BytesArg
namespace Go.Proofs.YtnclklfhjbkjhaaDoor.Plain
open Go.RowKit Go.Proofs.YtnclklfhjbkjhaaDoorW.PrintWords Go.Proofs.YtnclklfhjbkjhaaDoor.PFnJsonName

theorem wrap_in {i : Int} (h0 : -9223372036854775808 ≤ i) (h1 : i ≤ 9223372036854775807) : wrap64 i = i := by unfold wrap64; omega
theorem pred_k {k d : Nat} (h : d < k) : ∃ m, k = m + 1 := ⟨k - 1, by omega⟩

/-- What stands behind i bytes: the numbers so far, and whether the next letter is to be a capital. -/
def st (s : ByteArray) : Nat → List Int × Bool
  | 0 => ([], false)
  | i + 1 => if bt s (i : Int) = 95 then ((st s i).1, true) else ((st s i).1 ++ [if (st s i).2 = true ∧ 97 ≤ bt s (i : Int) ∧ bt s (i : Int) ≤ 122 then bt s (i : Int) - 32 else bt s (i : Int)], false)
theorem st_under (s : ByteArray) (i : Nat) (h : bt s (i : Int) = 95) : st s (i + 1) = ((st s i).1, true) := by rw [st, if_pos h]
theorem st_cap (s : ByteArray) (i : Nat) (h : ¬ bt s (i : Int) = 95) (hu : (st s i).2 = true) (h1 : 97 ≤ bt s (i : Int)) (h2 : bt s (i : Int) ≤ 122) : st s (i + 1) = ((st s i).1 ++ [bt s (i : Int) - 32], false) := by
  rw [st, if_neg h, if_pos ⟨hu, h1, h2⟩]
theorem st_same (s : ByteArray) (i : Nat) (h : ¬ bt s (i : Int) = 95) (hn : ¬ ((st s i).2 = true ∧ 97 ≤ bt s (i : Int) ∧ bt s (i : Int) ≤ 122)) : st s (i + 1) = ((st s i).1 ++ [bt s (i : Int)], false) := by
  rw [st, if_neg h, if_neg hn]
theorem st_len (s : ByteArray) : ∀ i, (st s i).1.length ≤ i
  | 0 => Nat.le_refl _
  | i + 1 => by
    have := st_len s i
    rw [st]
    split
    · exact Nat.le_succ_of_le this
    · simp; exact this
/-- Every number is one of ASCII. -/
def Small (l : List Int) : Prop := ∀ x ∈ l, 0 ≤ x ∧ x < 128
def Ascii (s : ByteArray) : Prop := ∀ j : Nat, j < s.size → bt s (j : Int) < 128
theorem st_small (s : ByteArray) (ha : Ascii s) : ∀ i, i ≤ s.size → Small (st s i).1
  | 0, _ => fun x h => by cases h
  | i + 1, hi => by
    have ih := st_small s ha i (by omega)
    have h0 := (bt_range s (i : Int)).1
    have h1 := ha i (by omega)
    rw [st]
    split
    · exact ih
    · intro x hx
      rcases List.mem_append.1 hx with h | h
      · exact ih x h
      · obtain rfl := List.mem_singleton.1 h
        split <;> omega

theorem strOfNums_append (a b : List Int) : strOfNums (a ++ b) = strOfNums a ++ strOfNums b := by
  apply ByteArray.ext
  apply Array.ext'
  rw [ByteArray.data_append, Array.toList_append, strOfNums_data, strOfNums_data, strOfNums_data, List.map_append]
theorem encode_small (n : Int) (h0 : 0 ≤ n) (h1 : n < 128) : Utf8.encode n = strOfNums [n] := by
  have hv : Utf8.valid n = true := by rw [validRune_eq]; exact decide_eq_true (.inl ⟨h0, by omega⟩)
  unfold Utf8.encode
  rw [if_pos hv]
  simp only []
  rw [if_pos (by omega)]
  rfl
theorem runes_foldl : ∀ (l : List Int) (r : ByteArray), Small l → l.foldl (fun r n => r ++ Utf8.encode n) r = r ++ strOfNums l
  | [], r, _ => by
    have : strOfNums [] = ByteArray.empty := rfl
    rw [this, ByteArray.append_empty]; rfl
  | n :: l, r, h => by
    have hn := h n (by simp)
    rw [List.foldl_cons, runes_foldl l _ (fun x hx => h x (by simp [hx])), encode_small n hn.1 hn.2, ByteArray.append_assoc, ← strOfNums_append]
    rfl
theorem runes_small (l : List Int) (h : Small l) : runesBytes l = strOfNums l := by
  unfold runesBytes
  rw [runes_foldl l _ h, ByteArray.empty_append]

/-- The JSON name. -/
def J (s : ByteArray) : ByteArray := strOfNums (st s s.size).1
theorem J_size (s : ByteArray) : (J s).size ≤ s.size := by
  unfold J; rw [strOfNums_size]; exact st_len s s.size
theorem J_runes (s : ByteArray) (ha : Ascii s) : runesBytes (st s s.size).1 = J s := runes_small _ (st_small s ha s.size (Nat.le_refl _))
theorem bt_nums (l : List Int) (h : Small l) (j : Nat) (hj : j < l.length) : bt (strOfNums l) (j : Int) = l[j] := by
  have hs : j < (strOfNums l).size := by rw [strOfNums_size]; exact hj
  unfold bt
  rw [dif_pos (by omega)]
  have e : (strOfNums l)[((j : Int)).toNat]'(by omega) = UInt8.ofNat (l[j]).toNat := by
    have : ((j : Int)).toNat = j := by omega
    simp only [this]
    rw [ByteArray.getElem_eq_getElem_data]
    simp [strOfNums]
  rw [e]
  have := h l[j] (List.getElem_mem _)
  simp
  omega
theorem J_ascii (s : ByteArray) (ha : Ascii s) : Ascii (J s) := by
  intro j hj
  have hl : j < (st s s.size).1.length := by unfold J at hj; rw [strOfNums_size] at hj; exact hj
  have hs := st_small s ha s.size (Nat.le_refl _)
  unfold J
  rw [bt_nums _ hs j hl]
  exact (hs _ (List.getElem_mem _)).2

theorem plain_loop (s : ByteArray) (m : Int) (hs : s.size ≤ 2147483647) (d : Nat) : ∀ (k : Nat) (i : Nat), i ≤ s.size → s.size - i = d → d < k →
    ∃ b, laws_plainText14.l0 k s m (i : Int) = some b ∧ (b = true → (s.size : Int) ≤ m ∧ ∀ j : Nat, i ≤ j → j < s.size → bt s (j : Int) < 128) := by
  induction d with
  | zero =>
    intro k i h1 hd hk
    obtain ⟨k, rfl⟩ := pred_k hk
    have hge : ¬ (i : Int) < (s.size : Int) := by omega
    by_cases hp : (s.size : Int) > 0
    · exact ⟨decide ((s.size : Int) ≤ m), by simp only [laws_plainText14.l0]; rw [if_neg hge, if_pos hp], fun h => ⟨of_decide_eq_true h, fun j _ _ => by omega⟩⟩
    · exact ⟨false, by simp only [laws_plainText14.l0]; rw [if_neg hge, if_neg hp], fun h => by cases h⟩
  | succ d ih =>
    intro k i h1 hd hk
    obtain ⟨k, rfl⟩ := pred_k hk
    have hlt : (i : Int) < (s.size : Int) := by omega
    have h0 : 0 ≤ (i : Int) := by omega
    by_cases h126 : bt s (i : Int) > 126
    · exact ⟨false, by simp only [laws_plainText14.l0]; rw [if_pos hlt, if_pos h0, if_pos h126], fun h => by cases h⟩
    by_cases h32 : bt s (i : Int) < 32
    · exact ⟨false, by simp only [laws_plainText14.l0]; rw [if_pos hlt, if_pos h0, if_neg h126, if_pos h32], fun h => by cases h⟩
    obtain ⟨b, hb, hf⟩ := ih k (i + 1) (by omega) (by omega) (by omega)
    refine ⟨b, by simp only [laws_plainText14.l0]; rw [if_pos hlt, if_pos h0, if_neg h126, if_neg h32, wrap_in (by omega) (by omega)]; exact hb, fun hbt => ⟨(hf hbt).1, fun j h1 h2 => ?_⟩⟩
    by_cases e : j = i
    · subst e; omega
    · exact (hf hbt).2 j (by omega) h2
theorem plain_any (s : ByteArray) (m : Int) (hs : s.size ≤ 2147483647) : ∃ k b, laws_plainText14.f k s m = some b ∧ (b = true → (s.size : Int) ≤ m ∧ Ascii s) := by
  obtain ⟨b, hb, hf⟩ := plain_loop s m hs s.size (s.size + 1) 0 (by omega) (by omega) (by omega)
  exact ⟨s.size + 1, b, hb, fun h => ⟨(hf h).1, fun j hj => (hf h).2 j (by omega) hj⟩⟩

theorem json_loop (s : ByteArray) (hs : s.size ≤ 2147483647) (d : Nat) : ∀ (k : Nat) (i : Nat), i ≤ s.size → s.size - i = d → d < k →
    spec_Json.l0 k s (strOfNums (st s i).1) (st s i).2 (i : Int) = some (J s) := by
  induction d with
  | zero =>
    intro k i h1 hd hk
    obtain ⟨k, rfl⟩ := pred_k hk
    obtain rfl : i = s.size := by omega
    simp only [spec_Json.l0]
    rw [if_neg (by omega)]
    rfl
  | succ d ih =>
    intro k i h1 hd hk
    obtain ⟨k, rfl⟩ := pred_k hk
    have hlt : (i : Int) < (s.size : Int) := by omega
    have h0 : 0 ≤ (i : Int) := by omega
    have hr := ih k (i + 1) (by omega) (by omega) (by omega)
    have hlen := st_len s i
    have hsz : ∀ c : Int, (strOfNums (st s i).1).size + (strOfNums [c]).size ≤ 9223372036854775807 := fun c => by rw [strOfNums_size, strOfNums_size]; simp; omega
    simp only [spec_Json.l0]
    rw [if_pos hlt, if_pos h0, wrap_in (by omega) (by omega)]
    simp only [Option.bind_some]
    rw [if_pos (hsz _), if_pos (hsz _)]
    by_cases h95 : bt s (i : Int) = 95
    · rw [st_under s i h95] at hr
      rw [if_pos h95]
      exact hr
    · rw [if_neg h95]
      by_cases hu : (st s i).2 = true
      · rw [if_pos hu]
        by_cases h97 : 97 ≤ bt s (i : Int)
        · rw [if_pos h97]
          by_cases h122 : bt s (i : Int) ≤ 122
          · rw [if_pos h122, show (bt s (i : Int) - 32) % 256 = bt s (i : Int) - 32 by omega]
            rw [st_cap s i h95 hu h97 h122, strOfNums_append] at hr
            exact hr
          · rw [if_neg h122]
            rw [st_same s i h95 (fun h => h122 h.2.2), strOfNums_append] at hr
            exact hr
        · rw [if_neg h97]
          rw [st_same s i h95 (fun h => h97 h.2.1), strOfNums_append] at hr
          exact hr
      · rw [if_neg hu]
        rw [st_same s i h95 (fun h => hu h.1), strOfNums_append] at hr
        exact hr
theorem json_any (s : ByteArray) (hs : s.size ≤ 2147483647) : spec_Json.f (s.size + 1) s = some (J s) :=
  json_loop s hs s.size (s.size + 1) 0 (by omega) (by omega) (by omega)
end Go.Proofs.YtnclklfhjbkjhaaDoor.Plain
