/-
  FnPrefixes, the plain law: what the dots of a package cut off, and what a part more does to it. No condition; no program in sight.
-/
import Derived.Laws.Strings
import Derived.Lib.Strings
namespace Go.Proofs.Ytnclklfhjbkjhaa.Walk

/-- The i-th byte as a number; behind the end 0. -/
def bt (s : ByteArray) (i : Int) : Int := if h : i.toNat < s.size then ((s[i.toNat]'h).toNat : Int) else 0
theorem bt_nat (s : ByteArray) (i : Nat) : ∀ h : i < s.size, ((s[i]'h).toNat : Int) = bt s (i : Int) := fun h => by
  unfold bt
  have e : ((i : Int)).toNat = i := by omega
  rw [dif_pos (by omega)]
  simp only [e]
theorem bt_range (s : ByteArray) (i : Int) : 0 ≤ bt s i ∧ bt s i ≤ 255 := by
  unfold bt
  split
  · rename_i h
    have := (s[i.toNat]'h).toNat_lt
    omega
  · omega
/-- A text without a dot. -/
def NoDot (s : ByteArray) : Prop := ∀ j : Int, 0 ≤ j → j < s.size → bt s j ≠ 46

/-! ### What the dots cut off: the texts ahead of a dot, the last one first -/
def cuts (s : ByteArray) : Nat → List ByteArray
  | 0 => []
  | i + 1 => if bt s (i : Int) = 46 then s.extract 0 i :: cuts s i else cuts s i
theorem cuts_hit (s : ByteArray) (i : Nat) (h : bt s (i : Int) = 46) : cuts s (i + 1) = s.extract 0 i :: cuts s i := by rw [cuts, if_pos h]
theorem cuts_miss (s : ByteArray) (i : Nat) (h : ¬ bt s (i : Int) = 46) : cuts s (i + 1) = cuts s i := by rw [cuts, if_neg h]
theorem cuts_len (s : ByteArray) : ∀ i, (cuts s i).length ≤ i
  | 0 => Nat.le_refl _
  | i + 1 => by
    have := cuts_len s i
    by_cases h : bt s (i : Int) = 46
    · rw [cuts_hit s i h]; simpa using this
    · rw [cuts_miss s i h]; omega
theorem cuts_grow (s : ByteArray) (i : Nat) : ∀ d, (cuts s i).length ≤ (cuts s (i + d)).length
  | 0 => Nat.le_refl _
  | d + 1 => by
    have := cuts_grow s i d
    rw [← Nat.add_assoc]
    by_cases h : bt s ((i + d : Nat) : Int) = 46
    · rw [cuts_hit s _ h]; simp; omega
    · rw [cuts_miss s _ h]; exact this

/-- What the list of prefixes is to be. -/
def pre (s : ByteArray) : List ByteArray := if s.size = 0 then [⟨#[]⟩] else s :: cuts s s.size ++ [⟨#[]⟩]

theorem toList_nil (s : ByteArray) : s.toList = [] ↔ s.size = 0 := by
  rw [ByteArray.toList_eq, ← List.length_eq_zero_iff, Array.length_toList]
  exact Iff.rfl

/-! ### A part more: nothing ahead of its dot turns -/
theorem bt_left (a b : ByteArray) (i : Nat) (h : i < a.size) : bt (a ++ b) (i : Int) = bt a (i : Int) := by
  unfold bt
  have h1 : ((i : Int)).toNat = i := by omega
  rw [dif_pos (by rw [ByteArray.size_append]; omega), dif_pos (by omega)]
  simp only [h1]
  rw [ByteArray.getElem_append_left h]
theorem bt_right (a b : ByteArray) (i : Nat) : bt (a ++ b) ((a.size + i : Nat) : Int) = bt b (i : Int) := by
  unfold bt
  have h1 : ((i : Int)).toNat = i := by omega
  have h2 : (((a.size + i : Nat) : Int)).toNat = a.size + i := by omega
  by_cases hb : i < b.size
  · rw [dif_pos (by rw [ByteArray.size_append]; omega), dif_pos (by omega)]
    simp only [h1, h2]
    rw [ByteArray.getElem_append_right (by omega)]
    simp
  · rw [dif_neg (by rw [ByteArray.size_append]; omega), dif_neg (by omega)]
theorem extract_left (a b : ByteArray) (i : Nat) (h : i ≤ a.size) : (a ++ b).extract 0 i = a.extract 0 i := by
  apply ByteArray.ext
  apply Array.ext'
  simp only [ByteArray.data_extract, ByteArray.data_append, Array.toList_extract, Array.toList_append, List.extract_eq_take_drop, List.drop_zero]
  rw [List.take_append_of_le_length (by have : a.data.toList.length = a.size := Array.length_toList; omega)]
theorem cuts_left (a b : ByteArray) : ∀ i, i ≤ a.size → cuts (a ++ b) i = cuts a i
  | 0, _ => rfl
  | i + 1, h => by
    have ih := cuts_left a b i (by omega)
    by_cases hd : bt a (i : Int) = 46
    · rw [cuts_hit a i hd, cuts_hit (a ++ b) i (by rw [bt_left a b i (by omega)]; exact hd), ih, extract_left a b i (by omega)]
    · rw [cuts_miss a i hd, cuts_miss (a ++ b) i (by rw [bt_left a b i (by omega)]; exact hd), ih]
theorem cuts_plain (a b : ByteArray) (hb : ∀ j : Int, 0 ≤ j → j < b.size → bt b j ≠ 46) : ∀ i, i ≤ b.size → cuts (a ++ b) (a.size + i) = cuts a a.size
  | 0, _ => cuts_left a b a.size (Nat.le_refl _)
  | i + 1, h => by
    rw [← Nat.add_assoc, cuts_miss _ _ (by rw [bt_right a b i]; exact hb i (by omega) (by omega))]
    exact cuts_plain a b hb i (by omega)
theorem cuts_part (a b : ByteArray) (hb : ∀ j : Int, 0 ≤ j → j < b.size → bt b j ≠ 46) : cuts (a ++ b) (a ++ b).size = cuts a a.size := by
  rw [ByteArray.size_append]; exact cuts_plain a b hb b.size (Nat.le_refl _)
theorem cuts_dot (a : ByteArray) : cuts (a ++ ⟨#[46]⟩) (a ++ ⟨#[46]⟩).size = a :: cuts a a.size := by
  have h1 : (⟨#[46]⟩ : ByteArray).size = 1 := rfl
  rw [ByteArray.size_append, h1, cuts_hit _ _ (by have := bt_right a ⟨#[46]⟩ 0; simp only [Nat.add_zero] at this; rw [this]; decide), cuts_left a _ a.size (Nat.le_refl _), extract_left a _ a.size (Nat.le_refl _)]
  rw [ByteArray.extract_zero_size]

/-- What holds of the package and of the texts that are wanted, a part after the other. -/
def Inv (pack : ByteArray) (want : List ByteArray) : Prop := pack.size = 0 ∧ want = [] ∨ pack.size ≠ 0 ∧ want = pack :: cuts pack pack.size
theorem Inv.start : Inv ⟨#[]⟩ [] := .inl ⟨rfl, rfl⟩
theorem size_zero (s : ByteArray) (h : s.size = 0) : s = ByteArray.empty := ByteArray.size_eq_zero_iff.1 h
theorem Inv.first {pack : ByteArray} {want : List ByteArray} (h : Inv pack want) (h0 : pack.size = 0) {p : ByteArray} (hp : 0 < p.size) (hd : NoDot p) : Inv (pack ++ p) ((pack ++ p) :: want) := by
  rcases h with ⟨_, rfl⟩ | ⟨h1, _⟩
  · refine .inr ⟨by rw [ByteArray.size_append]; omega, ?_⟩
    rw [cuts_part pack p hd, h0]
    rfl
  · exact absurd h0 h1
theorem Inv.next {pack : ByteArray} {want : List ByteArray} (h : Inv pack want) (h0 : pack.size ≠ 0) {p : ByteArray} (hd : NoDot p) : Inv (pack ++ ⟨#[46]⟩ ++ p) ((pack ++ ⟨#[46]⟩ ++ p) :: want) := by
  rcases h with ⟨h1, _⟩ | ⟨_, rfl⟩
  · exact absurd h1 h0
  · refine .inr ⟨by rw [ByteArray.size_append, ByteArray.size_append]; omega, ?_⟩
    rw [cuts_part _ p hd, cuts_dot pack]
theorem Inv.pre_eq {pack : ByteArray} {want : List ByteArray} (h : Inv pack want) : pre pack = want ++ [⟨#[]⟩] := by
  unfold pre
  rcases h with ⟨h1, rfl⟩ | ⟨h1, rfl⟩
  · rw [if_pos h1]; rfl
  · rw [if_neg h1]

end Go.Proofs.Ytnclklfhjbkjhaa.Walk
