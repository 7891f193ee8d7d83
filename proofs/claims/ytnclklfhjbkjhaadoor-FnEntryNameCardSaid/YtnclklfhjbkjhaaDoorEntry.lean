/-
  FnEntryName, the walks of InitCap, EntryName and Entry at a JSON name of ASCII. Conditions: ASCII, not empty, at most 1000 bytes.
-/
import Derived.Test.YtnclklfhjbkjhaaDoorJsonLaw
import Derived.Deep.QuietTactic
import Derived.BigQuiet
import Derived.RegionTactic
import Derived.ChangeAlike
import Derived.WalkSpells
import Derived.WalkLawsBesides
namespace Go.Proofs.YtnclklfhjbkjhaaDoor.Plain
open Go.RowKit

theorem first_bt (t : ByteArray) : ∀ h : 0 < t.size, ((t[0]'h).toNat : Int) = bt t 0 := fun h => bt_nat t 0 h
theorem list_ne (t : ByteArray) (h : 0 < t.size) : t.toList ≠ [] := by
  rw [ByteArray.toList_eq]
  intro e
  have : t.data.toList.length = 0 := by rw [e]; rfl
  rw [Array.length_toList] at this
  have h2 : t.data.size = t.size := rfl
  omega

theorem decode_any (t : ByteArray) (w : World) (h0 : 0 < t.size) (h1 : bt t 0 < 128) :
    Calls Tryd.prog 13 #[.string t] w fun e w' => e = .returned (.tuple #[.int .i32 (bt t 0), .int .i64 1]) ∧ w = w' := by
  have hx := first_bt t
  have hn0 : (t.toList == ([] : List UInt8)) = false := beq_eq_false_iff_ne.mpr (list_ne t h0)
  have hn1 : (t.toList != ([] : List UInt8)) = true := bne_iff_ne.mpr (list_ne t h0)
  have hn2 : t.toList.isEmpty = false := by rw [List.isEmpty_eq_false_iff]; exact list_ne t h0
  have hb0 := (bt_range t 0).1
  go_enter Tryd.func13, Tryd.ntmps13
  go_wp2_with fail
  go_ret2
  exact ⟨rfl, rfl⟩

/-- ToUpper at c gives u. -/
def Ups (c u : Int) : Prop := ∀ w : World, Calls Tryd.prog 12 #[.int .i32 c] w fun e w' => e = .returned (.int .i32 u) ∧ w = w'
/-- The number's capital. -/
def cap (c : Int) : Int := if 97 ≤ c ∧ c ≤ 122 then c - 32 else c
theorem ups_cap (c : Int) (h : c < 128) : Ups c (cap c) := by
  intro w
  unfold cap
  by_cases h1 : 97 ≤ c
  · by_cases h2 : c ≤ 122
    · rw [if_pos ⟨h1, h2⟩]; exact upper_low c w h1 h2
    · rw [if_neg (fun h => h2 h.2)]; exact upper_over c w (by omega) (by omega)
  · rw [if_neg (fun h => h1 h.1)]; exact upper_under c w (by omega)

set_option maxHeartbeats 1600000 in
theorem initCap_any (t : ByteArray) (w : World) (h0 : 0 < t.size) (hm : t.size ≤ 1000) (c u : Int) (hc : c = bt t 0) (h1 : c < 128) (hu : Ups c u) (h2 : (Utf8.encode u).size ≤ 4) :
    Calls Tryd.prog 11 #[.string t] w fun e w' => e = .returned (.string (Utf8.encode u ++ t.extract 1 t.size)) ∧ ∃ n, w' = w.drewN n := by
  have hdec : ∀ w : World, Calls Tryd.prog 13 #[.string t] w fun e w' => e = .returned (.tuple #[.int .i32 c, .int .i64 1]) ∧ w = w' := fun w => by rw [hc]; exact decode_any t w h0 (by rw [← hc]; exact h1)
  have HD := Lib.hid hdec
  clear hdec hc
  have h01 : (1 : Int) ≤ (t.size : Int) := by omega
  have hsum : (Utf8.encode u).size + (t.extract 1 t.size).size ≤ 9223372036854775807 := by rw [ByteArray.size_extract]; omega
  have hsum2 : (Utf8.encode u).size + (t.size - 1) ≤ 9223372036854775807 := by omega
  have hv : ∀ w : World, (convert 21 9 (.int .i32 u)).run Tryd.prog w = .ok (.string (Utf8.encode u)) w := fun w => run_convert_int_string w 21 9 .i32 u (by kernel_rfl) Tryd.underlying9
  generalize Utf8.encode u = U at *
  go_enter Tryd.func11, Tryd.ntmps11
  go_wp2_with fail
  refine (HD.out _).mono ?_
  rintro e w1 ⟨rfl, rfl⟩
  go_wp2_with fail
  go_quiet ((go_at_call 12; refine Calls.quiet_of_same ((hu _).mono fun _ _ h => ⟨h.1, h.2.symm⟩)))
  go_wp2_with fail
  go_ret
  exact ⟨rfl, _, rfl⟩

/-- "Entry". -/
def tail5 : ByteArray := ⟨#[69, 110, 116, 114, 121]⟩
/-- A map field's entry name, of a JSON name that is not empty. -/
def entryOf (t : ByteArray) : ByteArray := strOfNums [cap (bt t 0)] ++ t.extract 1 t.size ++ tail5

theorem cap_small (c : Int) (h0 : 0 ≤ c) (h : c < 128) : 0 ≤ cap c ∧ cap c < 128 := by unfold cap; split <;> omega

set_option maxHeartbeats 1600000 in
theorem implEntry_any (s : ByteArray) (w : World) (hs : s.size ≤ 1000) (ha : Ascii s) (h0 : 0 < (J s).size) :
    Calls Tryd.prog 8 #[.string s] w fun e w' => e = .returned (.string (entryOf (J s))) ∧ Below w.heap.size w w' := by
  have hJ : (J s).size ≤ 1000 := Nat.le_trans (J_size s) hs
  have hc := J_ascii s ha 0 h0
  have hc0 := (bt_range (J s) 0).1
  have hcap := cap_small (bt (J s) 0) hc0 hc
  have henc := encode_small _ hcap.1 hcap.2
  have hsz : (Utf8.encode (cap (bt (J s) 0))).size ≤ 4 := by rw [henc, strOfNums_size]; simp
  have HI := Lib.hid (fun w => initCap_any (J s) w h0 hJ (bt (J s) 0) (cap (bt (J s) 0)) rfl hc (ups_cap _ hc) hsz)
  have HJ := Lib.hid (fun w => jsonName_any s w hs ha)
  have hsum : (Utf8.encode (cap (bt (J s) 0)) ++ (J s).extract 1 (J s).size).size + 5 ≤ 9223372036854775807 := by rw [ByteArray.size_append, ByteArray.size_extract]; omega
  have HE : Hid (entryOf (J s) = Utf8.encode (cap (bt (J s) 0)) ++ (J s).extract 1 (J s).size ++ tail5) := Lib.hid (by rw [entryOf, henc])
  clear henc hcap hc hc0 ha hsz
  generalize Utf8.encode (cap (bt (J s) 0)) ++ (J s).extract 1 (J s).size = X at *
  go_enter Tryd.func8, Tryd.ntmps8
  go_wp2_with fail
  refine (HJ.out _).mono ?_
  rintro e w1 ⟨rfl, hb⟩
  go_wp2_with fail
  refine (HI.out _).mono ?_
  rintro e w2 ⟨rfl, n, rfl⟩
  go_wp2_with fail
  go_ret
  exact ⟨by rw [HE.out]; rfl, below_drewN hb n⟩

theorem split_first (t : ByteArray) (h0 : 0 < t.size) : strOfNums [bt t 0] ++ t.extract 1 t.size = t := by
  have e1 : strOfNums [bt t 0] = t.extract 0 1 := by
    apply ByteArray.ext_getElem
    · rw [strOfNums_size, ByteArray.size_extract]; simp; omega
    · intro i hi hi'
      have hi0 : i = 0 := by rw [strOfNums_size] at hi; simpa using hi
      subst hi0
      rw [ByteArray.getElem_extract]
      have hb := first_bt t h0
      have : (strOfNums [bt t 0])[0]'hi = UInt8.ofNat (bt t 0).toNat := by rw [ByteArray.getElem_eq_getElem_data]; simp [strOfNums]
      rw [this, ← hb]
      simp
  rw [e1, ByteArray.extract_append_extract]
  rw [show min 0 1 = 0 by rfl, show max 1 t.size = t.size by omega, ByteArray.extract_zero_size]

theorem entry_same (t : ByteArray) (h0 : 0 < t.size) (h : ¬ (97 ≤ bt t 0 ∧ bt t 0 ≤ 122)) : entryOf t = t ++ tail5 := by
  unfold entryOf cap
  rw [if_neg h, split_first t h0]
theorem entry_cap (t : ByteArray) (h : 97 ≤ bt t 0 ∧ bt t 0 ≤ 122) : entryOf t = strOfNums [bt t 0 - 32] ++ t.extract 1 t.size ++ tail5 := by
  unfold entryOf cap
  rw [if_pos h]

set_option maxHeartbeats 1600000 in
theorem specEntry_same (s : ByteArray) (w : World) (hs : s.size ≤ 1000) (h0 : 0 < (J s).size) (h : bt (J s) 0 < 97 ∨ 122 < bt (J s) 0) :
    Calls Tryd.prog 9 #[.string s] w fun e w' => e = .returned (.string (entryOf (J s))) ∧ Below w.heap.size w w' := by
  have hJ : (J s).size ≤ 1000 := Nat.le_trans (J_size s) hs
  have HE := Lib.hid (entry_same (J s) h0 (by omega))
  have HJ := Lib.hid (fun w => json_any s w (by omega))
  have hx := first_bt (J s)
  generalize J s = t at *
  generalize bt t 0 = c at *
  have hsum : t.size + 5 ≤ 9223372036854775807 := by omega
  rcases h with h | h
  all_goals
    go_enter Tryd.func9, Tryd.ntmps9
    go_wp2_with fail
    refine (HJ.out _).mono ?_
    rintro e w1 ⟨rfl, hb⟩
    go_wp2_with fail
    go_ret
    exact ⟨by rw [HE.out]; rfl, hb⟩

set_option maxHeartbeats 3200000 in
theorem specEntry_cap (s : ByteArray) (w : World) (hs : s.size ≤ 1000) (h0 : 0 < (J s).size) (h97 : 97 ≤ bt (J s) 0) (h122 : bt (J s) 0 ≤ 122) :
    Calls Tryd.prog 9 #[.string s] w fun e w' => e = .returned (.string (entryOf (J s))) ∧ Below w.heap.size w w' := by
  have hJ : (J s).size ≤ 1000 := Nat.le_trans (J_size s) hs
  have he := entry_cap (J s) ⟨h97, h122⟩
  rw [show bt (J s) 0 - 32 = bt (J s) 0 - 97 + 65 by omega] at he
  have HJ := Lib.hid (fun w => json_any s w (by omega))
  have hx := first_bt (J s)
  generalize J s = t at *
  generalize bt t 0 = c at *
  have h01 : (1 : Int) ≤ (t.size : Int) := by omega
  have hsum1 : (strOfNums [c - 97 + 65]).size + (t.size - 1) ≤ 9223372036854775807 := by rw [strOfNums_size]; simp; omega
  have hsum2 : (strOfNums [c - 97 + 65]).size + (t.size - 1) + 5 ≤ 9223372036854775807 := by rw [strOfNums_size]; simp; omega
  go_enter Tryd.func9, Tryd.ntmps9
  go_wp2_with fail
  refine (HJ.out _).mono ?_
  rintro e w1 ⟨rfl, hb⟩
  have hcv : (convert 25 9 (.slice (some ⟨w1.heap.size, 0, none⟩) 1 1)).run Tryd.prog ((w1.alloc (.cells #[.int .u8 (c - 97 + 65)] 5)).drew) = .ok (.string (strOfNums [c - 97 + 65])) ((w1.alloc (.cells #[.int .u8 (c - 97 + 65)] 5)).drew) :=
    conv_byte _ _ _ _ (by simp) rfl
  generalize strOfNums [c - 97 + 65] = U at *
  have HE := Lib.hid he
  clear he
  go_wp2_with fail
  go_region
  all_goals go_wp2_with fail
  all_goals go_ret
  all_goals exact ⟨by rw [HE.out]; rfl, ((hb.alloc hb.size _).drew)⟩
end Go.Proofs.YtnclklfhjbkjhaaDoor.Plain
