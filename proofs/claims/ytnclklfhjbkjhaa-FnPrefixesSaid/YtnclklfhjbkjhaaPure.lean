/-
  FnPrefixes, the plain law: the printed Lean functions answer true at every list of texts, for enough rounds. No condition.
-/
import Derived.Test.YtnclklfhjbkjhaaPFnPrefixesx2
import Derived.Lib.Strings
namespace Go.Proofs.Ytnclklfhjbkjhaa.Pure
open Go.RowKit Go.Proofs.YtnclklfhjbkjhaaW.PrintWords Go.Proofs.Ytnclklfhjbkjhaa.PFnPrefixes

theorem wrap_in {i : Int} (h0 : -9223372036854775808 ≤ i) (h1 : i ≤ 9223372036854775807) : wrap64 i = i := by unfold wrap64; omega
theorem pred_k {k d : Nat} (h : d < k) : ∃ m, k = m + 1 := ⟨k - 1, by omega⟩

theorem fits_loop (l : List ByteArray) (hl : l.length ≤ 2147483647) (d : Nat) : ∀ (k : Nat) (i : Int), 0 ≤ i → i ≤ l.length → (l.length : Int) - i = d → d < k →
    ∃ b, laws_zzFits1.l0 k l (l.length : Int) i = some b ∧ (b = true → ∀ j : Int, i ≤ j → j < l.length → (rdOf ByteArray.empty l j).size ≤ 2147483647) := by
  induction d with
  | zero =>
    intro k i h0 h1 hd hk
    obtain ⟨k, rfl⟩ := pred_k hk
    exact ⟨true, by simp only [laws_zzFits1.l0]; rw [if_neg (by omega)], fun _ j _ _ => by omega⟩
  | succ d ih =>
    intro k i h0 h1 hd hk
    obtain ⟨k, rfl⟩ := pred_k hk
    have hlt : i < (l.length : Int) := by omega
    by_cases hs : ((rdOf ByteArray.empty l i).size : Int) > 2147483647
    · exact ⟨false, by simp only [laws_zzFits1.l0]; rw [if_pos hlt, if_pos h0, if_pos hlt, if_pos hs], fun h => by cases h⟩
    · obtain ⟨b, hb, hf⟩ := ih k (i + 1) (by omega) (by omega) (by omega) (by omega)
      refine ⟨b, by simp only [laws_zzFits1.l0]; rw [if_pos hlt, if_pos h0, if_pos hlt, if_neg hs, wrap_in (by omega) (by omega)]; exact hb, fun hbt j hj1 hj2 => ?_⟩
      by_cases e : j = i
      · subst e; omega
      · exact hf hbt j (by omega) hj2

theorem fits_any (l : List ByteArray) (k : Nat) (hk : l.length < k) :
    ∃ b, laws_zzFits1.f k l = some b ∧ (b = true → l.length ≤ 2147483647 ∧ ∀ j : Int, 0 ≤ j → j < l.length → (rdOf ByteArray.empty l j).size ≤ 2147483647) := by
  unfold laws_zzFits1.f
  by_cases h : (l.length : Int) > 2147483647
  · exact ⟨false, by rw [if_pos h], fun h => by cases h⟩
  · obtain ⟨b, hb, hf⟩ := fits_loop l (by omega) l.length k 0 (by omega) (by omega) (by omega) hk
    exact ⟨b, by rw [if_neg h]; exact hb, fun hbt => ⟨by omega, hf hbt⟩⟩

theorem plain_loop (s : ByteArray) (m : Int) (hs : s.size ≤ 2147483647) (d : Nat) : ∀ (k : Nat) (i : Int), 0 ≤ i → i ≤ s.size → (s.size : Int) - i = d → d < k →
    ∃ b, laws_plainText14.l0 k s m i = some b ∧ (b = true → 0 < s.size ∧ (s.size : Int) ≤ m) := by
  induction d with
  | zero =>
    intro k i h0 h1 hd hk
    obtain ⟨k, rfl⟩ := pred_k hk
    have hge : ¬ i < (s.size : Int) := by omega
    by_cases hp : (s.size : Int) > 0
    · exact ⟨decide ((s.size : Int) ≤ m), by simp only [laws_plainText14.l0]; rw [if_neg hge, if_pos hp], fun h => ⟨by omega, of_decide_eq_true h⟩⟩
    · exact ⟨false, by simp only [laws_plainText14.l0]; rw [if_neg hge, if_neg hp], fun h => by cases h⟩
  | succ d ih =>
    intro k i h0 h1 hd hk
    obtain ⟨k, rfl⟩ := pred_k hk
    have hlt : i < (s.size : Int) := by omega
    by_cases h126 : bt s i > 126
    · exact ⟨false, by simp only [laws_plainText14.l0]; rw [if_pos hlt, if_pos h0, if_pos h126], fun h => by cases h⟩
    by_cases h32 : bt s i < 32
    · exact ⟨false, by simp only [laws_plainText14.l0]; rw [if_pos hlt, if_pos h0, if_neg h126, if_pos h32], fun h => by cases h⟩
    obtain ⟨b, hb, hf⟩ := ih k (i + 1) (by omega) (by omega) (by omega) (by omega)
    exact ⟨b, by simp only [laws_plainText14.l0]; rw [if_pos hlt, if_pos h0, if_neg h126, if_neg h32, wrap_in (by omega) (by omega)]; exact hb, hf⟩

theorem plain_any (s : ByteArray) (m : Int) (hs : s.size ≤ 2147483647) (k : Nat) (hk : s.size < k) :
    ∃ b, laws_plainText14.f k s m = some b ∧ (b = true → 0 < s.size ∧ (s.size : Int) ≤ m) :=
  plain_loop s m hs s.size k 0 (by omega) (by omega) (by omega) hk

theorem last_loop (s : ByteArray) (hs : s.size ≤ 2147483647) (d : Nat) : ∀ (k : Nat) (i : Int), -1 ≤ i → i < s.size → i + 1 = d → d < k → (∀ j : Int, i < j → j < s.size → bt s j ≠ 46) →
    ∃ r, spec_Last.l0 k s i = some r ∧ (r.size = s.size → ∀ j : Int, 0 ≤ j → j < s.size → bt s j ≠ 46) := by
  induction d with
  | zero =>
    intro k i h0 h1 hd hk hn
    obtain ⟨k, rfl⟩ := pred_k hk
    exact ⟨s, by simp only [spec_Last.l0]; rw [if_neg (by omega)], fun _ j hj => hn j (by omega)⟩
  | succ d ih =>
    intro k i h0 h1 hd hk hn
    obtain ⟨k, rfl⟩ := pred_k hk
    have hge : i ≥ 0 := by omega
    by_cases hdot : bt s i = 46
    · refine ⟨s.extract (i + 1).toNat s.size, ?_, fun he => ?_⟩
      · simp only [spec_Last.l0]
        rw [if_pos hge, if_pos hge, if_pos h1, if_pos hdot, wrap_in (i := i + 1) (by omega) (by omega), if_pos (by omega), if_pos (by omega)]
      · rw [ByteArray.size_extract] at he
        omega
    · obtain ⟨r, hr, hf⟩ := ih k (i - 1) (by omega) (by omega) (by omega) (by omega) (fun j hj1 hj2 => by
        by_cases e : j = i
        · subst e; exact hdot
        · exact hn j (by omega) hj2)
      exact ⟨r, by simp only [spec_Last.l0]; rw [if_pos hge, if_pos hge, if_pos h1, if_neg hdot, wrap_in (by omega) (by omega)]; exact hr, hf⟩

theorem last_any (s : ByteArray) (hs : s.size ≤ 2147483647) (k : Nat) (hk : s.size < k) :
    ∃ r, spec_Last.f k s = some r ∧ (r.size = s.size → ∀ j : Int, 0 ≤ j → j < s.size → bt s j ≠ 46) := by
  unfold spec_Last.f
  rw [wrap_in (by omega) (by omega)]
  exact last_loop s hs s.size k _ (by omega) (by omega) (by omega) hk (fun j h1 h2 => by omega)

/-! ### What the dots cut off: the texts ahead of a dot, the last one first -/
def cuts (s : ByteArray) : Nat → List ByteArray
  | 0 => []
  | i + 1 => if bt s (i : Int) = 46 then s.extract 0 i :: cuts s i else cuts s i
theorem cuts_hit (s : ByteArray) (i : Nat) (h : bt s (i : Int) = 46) : cuts s (i + 1) = s.extract 0 i :: cuts s i := by rw [cuts, if_pos h]
theorem cuts_miss (s : ByteArray) (i : Nat) (h : ¬ bt s (i : Int) = 46) : cuts s (i + 1) = cuts s i := by rw [cuts, if_neg h]
theorem cuts_len (s : ByteArray) : ∀ i, (cuts s i).length ≤ i
  | 0 => Nat.le_refl _
  | i + 1 => by
    have := cuts_len s i
    by_cases h : bt s (i : Int) = 46
    · rw [cuts_hit s i h]; simpa using this
    · rw [cuts_miss s i h]; omega
theorem cuts_grow (s : ByteArray) (i : Nat) : ∀ d, (cuts s i).length ≤ (cuts s (i + d)).length
  | 0 => Nat.le_refl _
  | d + 1 => by
    have := cuts_grow s i d
    rw [← Nat.add_assoc]
    by_cases h : bt s ((i + d : Nat) : Int) = 46
    · rw [cuts_hit s _ h]; simp; omega
    · rw [cuts_miss s _ h]; exact this

/-- What the list of prefixes is to be. -/
def pre (s : ByteArray) : List ByteArray := if s.size = 0 then [⟨#[]⟩] else s :: cuts s s.size ++ [⟨#[]⟩]

theorem fill_loop (s : ByteArray) (hs : s.size ≤ 2147483647) (d : Nat) : ∀ (k i : Nat), i ≤ s.size → s.size - i = d → d < k →
    inner_CreatePrefixList.l1 k s ((cuts s s.size).length - (cuts s i).length : Int) (List.replicate ((cuts s s.size).length - (cuts s i).length + 1) (⟨#[]⟩ : ByteArray) ++ cuts s i ++ [⟨#[]⟩]) (i : Int) =
      some (s :: cuts s s.size ++ [⟨#[]⟩]) := by
  induction d with
  | zero =>
    intro k i h1 hd hk
    obtain ⟨k, rfl⟩ := pred_k hk
    obtain rfl : i = s.size := by omega
    simp only [inner_CreatePrefixList.l1]
    rw [if_neg (by omega), if_pos (by simp; omega)]
    simp
  | succ d ih =>
    intro k i h1 hd hk
    obtain ⟨k, rfl⟩ := pred_k hk
    have hlt : (i : Int) < (s.size : Int) := by omega
    have hr := ih k (i + 1) (by omega) (by omega) (by omega)
    simp only [inner_CreatePrefixList.l1]
    rw [if_pos hlt, if_pos (by omega)]
    have hg := cuts_grow s (i + 1) (s.size - (i + 1))
    rw [show i + 1 + (s.size - (i + 1)) = s.size by omega] at hg
    have hle := cuts_len s s.size
    by_cases hdot : bt s (i : Int) = 46
    · rw [cuts_hit s i hdot] at hr hg
      simp only [List.length_cons] at hg hr
      rw [if_pos hdot, if_pos (by omega), if_pos (by omega), if_pos (by simp; omega), wrap_in (by omega) (by omega), wrap_in (by omega) (by omega)]
      have e1 : (((cuts s s.size).length : Int) - ((cuts s i).length : Int)).toNat = (cuts s s.size).length - (cuts s i).length := by omega
      have e2 : (cuts s s.size).length - (cuts s i).length + 1 = ((cuts s s.size).length - ((cuts s i).length + 1) + 1) + 1 := by omega
      have e3 : (List.replicate ((cuts s s.size).length - (cuts s i).length + 1) (⟨#[]⟩ : ByteArray) ++ cuts s i ++ [(⟨#[]⟩ : ByteArray)]).set ((cuts s s.size).length - (cuts s i).length) (s.extract 0 i) =
          List.replicate ((cuts s s.size).length - ((cuts s i).length + 1) + 1) (⟨#[]⟩ : ByteArray) ++ (s.extract 0 i :: cuts s i) ++ [⟨#[]⟩] := by
        rw [e2, List.replicate_succ', List.append_assoc, List.append_assoc, List.append_assoc]
        rw [List.set_append_right _ _ (by simp; omega)]
        simp only [List.length_replicate]
        rw [show (cuts s s.size).length - (cuts s i).length - ((cuts s s.size).length - ((cuts s i).length + 1) + 1) = 0 by omega]
        simp
      rw [e1, show ((i : Int)).toNat = i by omega, e3]
      have e4 : ((cuts s s.size).length : Int) - ((cuts s i).length : Int) - 1 = ((cuts s s.size).length : Int) - (((cuts s i).length + 1 : Nat) : Int) := by omega
      rw [e4]
      exact hr
    · rw [cuts_miss s i hdot] at hr
      rw [if_neg hdot, wrap_in (by omega) (by omega)]
      exact hr

theorem count_loop (s : ByteArray) (hs : s.size ≤ 2147483647) (d : Nat) : ∀ (k i : Nat), i ≤ s.size → s.size - i = d → d + s.size + 1 < k →
    inner_CreatePrefixList.l0 k s ((cuts s i).length : Int) (i : Int) = some (s :: cuts s s.size ++ [⟨#[]⟩]) := by
  induction d with
  | zero =>
    intro k i h1 hd hk
    obtain ⟨k, rfl⟩ := pred_k (k := k) (d := 0) (by omega)
    obtain rfl : i = s.size := by omega
    have hle := cuts_len s s.size
    simp only [inner_CreatePrefixList.l0]
    rw [if_neg (by omega)]
    by_cases h0 : ((cuts s s.size).length : Int) = 0
    · rw [if_pos h0]
      have : cuts s s.size = [] := List.eq_nil_of_length_eq_zero (by omega)
      rw [this]
      rfl
    · rw [if_neg h0, wrap_in (by omega) (by omega), if_pos (by omega), if_pos (by omega)]
      have := fill_loop s hs s.size k 0 (by omega) (by omega) (by omega)
      rw [show (((cuts s s.size).length : Int) + 2).toNat = (cuts s s.size).length + 1 + 1 by omega, List.replicate_succ']
      simpa [cuts] using this
  | succ d ih =>
    intro k i h1 hd hk
    obtain ⟨k, rfl⟩ := pred_k (k := k) (d := 0) (by omega)
    have hlt : (i : Int) < (s.size : Int) := by omega
    have hr := ih k (i + 1) (by omega) (by omega) (by omega)
    have hle := cuts_len s i
    simp only [inner_CreatePrefixList.l0]
    rw [if_pos hlt, if_pos (by omega)]
    by_cases hdot : bt s (i : Int) = 46
    · rw [cuts_hit s i hdot] at hr
      rw [if_pos hdot, wrap_in (by omega) (by omega), wrap_in (by omega) (by omega)]
      exact hr
    · rw [cuts_miss s i hdot] at hr
      rw [if_neg hdot, wrap_in (by omega) (by omega)]
      exact hr

theorem toList_nil (s : ByteArray) : s.toList = [] ↔ s.size = 0 := by
  rw [ByteArray.toList_eq, ← List.length_eq_zero_iff, Array.length_toList]
  exact Iff.rfl

theorem prefixes_any (s : ByteArray) (hs : s.size ≤ 2147483647) (k : Nat) (hk : 2 * s.size + 1 < k) : impl_Prefixes.f k s = some (pre s) := by
  unfold impl_Prefixes.f inner_CreatePrefixList.f pre
  by_cases h : s.size = 0
  · rw [if_pos ((toList_nil s).2 h), if_pos h]; rfl
  · rw [if_neg (fun e => h ((toList_nil s).1 e)), if_neg h]
    have := count_loop s hs s.size k 0 (by omega) (by omega) (by omega)
    rw [show ((cuts s 0).length : Int) = 0 by rfl, show ((0 : Nat) : Int) = 0 by rfl] at this
    rw [this]; rfl

theorem same_loop (l : List ByteArray) (hl : l.length ≤ 2147483647) (d : Nat) : ∀ (k : Nat) (i : Int), 0 ≤ i → i ≤ l.length → (l.length : Int) - i = d → d < k →
    laws_sameTexts14.l0 k l l (l.length : Int) i = some true := by
  induction d with
  | zero =>
    intro k i h0 h1 hd hk
    obtain ⟨k, rfl⟩ := pred_k hk
    simp only [laws_sameTexts14.l0]; rw [if_neg (by omega)]
  | succ d ih =>
    intro k i h0 h1 hd hk
    obtain ⟨k, rfl⟩ := pred_k hk
    have hlt : i < (l.length : Int) := by omega
    simp only [laws_sameTexts14.l0]
    rw [if_pos hlt, if_pos h0, if_pos hlt, if_pos hlt, if_pos trivial, wrap_in (by omega) (by omega)]
    exact ih k (i + 1) (by omega) (by omega) (by omega) (by omega)
theorem same_any (l : List ByteArray) (hl : l.length ≤ 2147483647) (k : Nat) (hk : l.length < k) : laws_sameTexts14.f k l l = some true := by
  unfold laws_sameTexts14.f
  rw [if_pos rfl]
  exact same_loop l hl l.length k 0 (by omega) (by omega) (by omega) hk

/-! ### A part more: nothing ahead of its dot turns -/
theorem bt_left (a b : ByteArray) (i : Nat) (h : i < a.size) : bt (a ++ b) (i : Int) = bt a (i : Int) := by
  unfold bt
  have h1 : ((i : Int)).toNat = i := by omega
  rw [dif_pos (by rw [ByteArray.size_append]; omega), dif_pos (by omega)]
  simp only [h1]
  rw [ByteArray.getElem_append_left h]
theorem bt_right (a b : ByteArray) (i : Nat) : bt (a ++ b) ((a.size + i : Nat) : Int) = bt b (i : Int) := by
  unfold bt
  have h1 : ((i : Int)).toNat = i := by omega
  have h2 : (((a.size + i : Nat) : Int)).toNat = a.size + i := by omega
  by_cases hb : i < b.size
  · rw [dif_pos (by rw [ByteArray.size_append]; omega), dif_pos (by omega)]
    simp only [h1, h2]
    rw [ByteArray.getElem_append_right (by omega)]
    simp
  · rw [dif_neg (by rw [ByteArray.size_append]; omega), dif_neg (by omega)]
theorem extract_left (a b : ByteArray) (i : Nat) (h : i ≤ a.size) : (a ++ b).extract 0 i = a.extract 0 i := by
  apply ByteArray.ext
  apply Array.ext'
  simp only [ByteArray.data_extract, ByteArray.data_append, Array.toList_extract, Array.toList_append, List.extract_eq_take_drop, List.drop_zero]
  rw [List.take_append_of_le_length (by have : a.data.toList.length = a.size := Array.length_toList; omega)]
theorem cuts_left (a b : ByteArray) : ∀ i, i ≤ a.size → cuts (a ++ b) i = cuts a i
  | 0, _ => rfl
  | i + 1, h => by
    have ih := cuts_left a b i (by omega)
    by_cases hd : bt a (i : Int) = 46
    · rw [cuts_hit a i hd, cuts_hit (a ++ b) i (by rw [bt_left a b i (by omega)]; exact hd), ih, extract_left a b i (by omega)]
    · rw [cuts_miss a i hd, cuts_miss (a ++ b) i (by rw [bt_left a b i (by omega)]; exact hd), ih]
theorem cuts_plain (a b : ByteArray) (hb : ∀ j : Int, 0 ≤ j → j < b.size → bt b j ≠ 46) : ∀ i, i ≤ b.size → cuts (a ++ b) (a.size + i) = cuts a a.size
  | 0, _ => cuts_left a b a.size (Nat.le_refl _)
  | i + 1, h => by
    rw [← Nat.add_assoc, cuts_miss _ _ (by rw [bt_right a b i]; exact hb i (by omega) (by omega))]
    exact cuts_plain a b hb i (by omega)
theorem cuts_part (a b : ByteArray) (hb : ∀ j : Int, 0 ≤ j → j < b.size → bt b j ≠ 46) : cuts (a ++ b) (a ++ b).size = cuts a a.size := by
  rw [ByteArray.size_append]; exact cuts_plain a b hb b.size (Nat.le_refl _)
theorem cuts_dot (a : ByteArray) : cuts (a ++ ⟨#[46]⟩) (a ++ ⟨#[46]⟩).size = a :: cuts a a.size := by
  have h1 : (⟨#[46]⟩ : ByteArray).size = 1 := rfl
  rw [ByteArray.size_append, h1, cuts_hit _ _ (by have := bt_right a ⟨#[46]⟩ 0; simp only [Nat.add_zero] at this; rw [this]; decide), cuts_left a _ a.size (Nat.le_refl _), extract_left a _ a.size (Nat.le_refl _)]
  rw [ByteArray.extract_zero_size]

/-- What holds of the package and of the texts that are wanted, a part after the other. -/
def Inv (pack : ByteArray) (want : List ByteArray) : Prop := pack.size = 0 ∧ want = [] ∨ pack.size ≠ 0 ∧ want = pack :: cuts pack pack.size
theorem Inv.start : Inv ⟨#[]⟩ [] := .inl ⟨rfl, rfl⟩
theorem size_zero (s : ByteArray) (h : s.size = 0) : s = ByteArray.empty := ByteArray.size_eq_zero_iff.1 h
theorem Inv.first {pack : ByteArray} {want : List ByteArray} (h : Inv pack want) (h0 : pack.size = 0) {p : ByteArray} (hp : 0 < p.size) (hd : ∀ j : Int, 0 ≤ j → j < p.size → bt p j ≠ 46) : Inv (pack ++ p) ((pack ++ p) :: want) := by
  rcases h with ⟨_, rfl⟩ | ⟨h1, _⟩
  · refine .inr ⟨by rw [ByteArray.size_append]; omega, ?_⟩
    rw [cuts_part pack p hd, h0]
    rfl
  · exact absurd h0 h1
theorem Inv.next {pack : ByteArray} {want : List ByteArray} (h : Inv pack want) (h0 : pack.size ≠ 0) {p : ByteArray} (hd : ∀ j : Int, 0 ≤ j → j < p.size → bt p j ≠ 46) : Inv (pack ++ ⟨#[46]⟩ ++ p) ((pack ++ ⟨#[46]⟩ ++ p) :: want) := by
  rcases h with ⟨h1, _⟩ | ⟨_, rfl⟩
  · exact absurd h1 h0
  · refine .inr ⟨by rw [ByteArray.size_append, ByteArray.size_append]; omega, ?_⟩
    rw [cuts_part _ p hd, cuts_dot pack]
theorem Inv.pre_eq {pack : ByteArray} {want : List ByteArray} (h : Inv pack want) : pre pack = want ++ [⟨#[]⟩] := by
  unfold pre
  rcases h with ⟨h1, rfl⟩ | ⟨h1, rfl⟩
  · rw [if_pos h1]; rfl
  · rw [if_neg h1]

theorem main_loop (l : List ByteArray) (hl : l.length ≤ 2147483647) (hs : ∀ j : Int, 0 ≤ j → j < l.length → (rdOf ByteArray.empty l j).size ≤ 2147483647) (C : Nat) (hC : 3000 ≤ C) (hCs : ∀ j : Int, 0 ≤ j → j < l.length → (rdOf ByteArray.empty l j).size < C)
    (d : Nat) : ∀ (k : Nat) (i : Nat) (pack : ByteArray) (want : List ByteArray), i ≤ l.length → l.length - i = d → 2 * d + C < k → (0 < i → l.length ≤ 20) → Inv pack want → pack.size ≤ 51 * i → want.length ≤ i →
    laws_FnPrefixes.l0 k l pack want l (l.length : Int) (i : Int) = some true := by
  induction d with
  | zero =>
    intro k i pack want h1 hd hk h20 hI hps hwl
    obtain ⟨k, rfl⟩ := pred_k (k := k) (d := 0) (by omega)
    have hsmall : i ≤ 20 := by
      by_cases h0 : 0 < i
      · have := h20 h0; omega
      · omega
    simp only [laws_FnPrefixes.l0]
    rw [if_neg (by omega), prefixes_any pack (by omega) k (by omega), hI.pre_eq]
    simp only [Option.bind_some]
    rw [if_pos (by omega), same_any (want ++ [(⟨#[]⟩ : ByteArray)]) (by simp; omega) k (by simp; omega)]
    rfl
  | succ d ih =>
    intro k i pack want h1 hd hk h20 hI hps hwl
    obtain ⟨k, rfl⟩ := pred_k (k := k) (d := 0) (by omega)
    obtain ⟨k, rfl⟩ := pred_k (k := k) (d := 0) (by omega)
    have hlt : (i : Int) < (l.length : Int) := by omega
    simp only [laws_FnPrefixes.l0]
    rw [if_pos hlt, if_pos (by omega), if_pos hlt]
    have hsz := hs i (by omega) hlt
    have hcz := hCs i (by omega) hlt
    generalize rdOf ByteArray.empty l (i : Int) = p at hsz hcz ⊢
    obtain ⟨b, hb, hbf⟩ := plain_any p 50 hsz (k + 1) (by omega)
    rw [hb]
    simp only [Option.bind_some]
    have jt : ∀ x, laws_FnPrefixes.j1 (k + 1) l pack want p l (l.length : Int) x true = some true := fun x => by simp only [laws_FnPrefixes.j1]; rw [if_pos trivial]
    cases b with
    | false => rw [if_neg (by decide)]; exact jt _
    | true =>
      obtain ⟨hp0, hp50⟩ := hbf rfl
      rw [if_pos rfl]
      by_cases hn : (l.length : Int) > 20
      · rw [if_pos hn]; exact jt _
      rw [if_neg hn]
      obtain ⟨r, hr, hrf⟩ := last_any p hsz (k + 1) (by omega)
      rw [hr]
      simp only [Option.bind_some]
      by_cases he : (r.size : Int) = (p.size : Int)
      · have hd := hrf (by omega)
        rw [show ((r.size : Int) != (p.size : Int)) = false by simp [he]]
        simp only [laws_FnPrefixes.j1]
        rw [if_neg (by decide)]
        by_cases h0 : pack.size = 0
        · rw [if_pos ((toList_nil pack).2 h0), if_pos (by omega)]
          simp only [Option.bind_some]
          rw [if_pos (by simp; omega), wrap_in (by omega) (by omega)]
          exact ih k (i + 1) (pack ++ p) ((pack ++ p) :: want) (by omega) (by omega) (by omega) (fun _ => by omega) (hI.first h0 hp0 hd) (by rw [ByteArray.size_append]; omega) (by simp; omega)
        · have h46 : (⟨#[46]⟩ : ByteArray).size = 1 := rfl
          rw [if_neg (fun e => h0 ((toList_nil pack).1 e)), if_pos (by omega), if_pos (by rw [ByteArray.size_append, h46]; omega)]
          simp only [Option.bind_some]
          rw [if_pos (by simp; omega), wrap_in (by omega) (by omega)]
          exact ih k (i + 1) (pack ++ ⟨#[46]⟩ ++ p) ((pack ++ ⟨#[46]⟩ ++ p) :: want) (by omega) (by omega) (by omega) (fun _ => by omega) (hI.next h0 hd) (by rw [ByteArray.size_append, ByteArray.size_append, h46]; omega) (by simp; omega)
      · rw [show ((r.size : Int) != (p.size : Int)) = true by simp [he]]
        exact jt _

theorem prefixes_pure (l : List ByteArray) : ∃ k, laws_FnPrefixes.f k l = some true := by
  refine ⟨2 * l.length + (2147483647 + 1) + 1, ?_⟩
  unfold laws_FnPrefixes.f
  obtain ⟨b, hb, hf⟩ := fits_any l (2 * l.length + (2147483647 + 1) + 1) (by omega)
  rw [hb]
  simp only [Option.bind_some]
  cases b with
  | false => rfl
  | true =>
    obtain ⟨hl, hs⟩ := hf rfl
    rw [if_pos rfl]
    exact main_loop l hl hs (2147483647 + 1) (by omega) (fun j h0 h1 => by have := hs j h0 h1; omega) l.length _ 0 ⟨#[]⟩ [] (by omega) (by omega) (by omega) (fun h => by omega) Inv.start (by show 0 ≤ _; omega) (by simp)
end Go.Proofs.Ytnclklfhjbkjhaa.Pure
