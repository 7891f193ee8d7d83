/-
  FnEntryName, the law's walk: for every text the call answers true and nothing of old turns. No condition.
-/
import Derived.Test.YtnclklfhjbkjhaaDoorEntry
namespace Go.Proofs.YtnclklfhjbkjhaaDoor.Plain
open Go.RowKit

theorem specEntry_any (s : ByteArray) (w : World) (hs : s.size ≤ 1000) (h0 : 0 < (J s).size) :
    Calls Tryd.prog 9 #[.string s] w fun e w' => e = .returned (.string (entryOf (J s))) ∧ Below w.heap.size w w' := by
  by_cases h1 : 97 ≤ bt (J s) 0
  · by_cases h2 : bt (J s) 0 ≤ 122
    · exact specEntry_cap s w hs h0 h1 h2
    · exact specEntry_same s w hs h0 (.inr (by omega))
  · exact specEntry_same s w hs h0 (.inl (by omega))

set_option maxHeartbeats 3200000 in
theorem entryLaw_any (s : ByteArray) (w : World) : Calls Tryd.prog 4 #[.string s] w fun e w' => e = .returned (.bool true) ∧ Below w.heap.size w w' := by
  by_cases big : 2147483647 < s.size
  · go_enter Tryd.func4, Tryd.ntmps4
    go_wp2_with fail
    go_ret
    exact ⟨rfl, Below.refl _ _⟩
  · have hsz : s.size ≤ 2147483647 := by omega
    have HJ := Lib.hid (fun w => json_any s w hsz)
    clear big
    go_enter Tryd.func4, Tryd.ntmps4
    go_wp2_with fail
    refine (plain14_any s _ hsz).mono ?_
    rintro e w1 ⟨b, rfl, hf, rfl⟩
    cases b with
    | false =>
      go_wp2_with fail
      go_ret
      exact ⟨rfl, Below.refl _ _⟩
    | true =>
      obtain ⟨hm, ha⟩ := hf rfl
      have h1000 : s.size ≤ 1000 := by omega
      clear hf hm
      by_cases h0 : (J s).size = 0
      · have hJ0 : J s = ⟨#[]⟩ := ByteArray.size_eq_zero_iff.1 h0
        rw [hJ0] at HJ
        clear ha h0 hJ0
        go_wp2_with fail
        refine (HJ.out _).mono ?_
        rintro e w2 ⟨rfl, hb2⟩
        go_wp2_with fail
        go_ret
        exact ⟨rfl, hb2⟩
      · have hpos : 0 < (J s).size := by omega
        have HI := Lib.hid (fun w => implEntry_any s w h1000 ha hpos)
        have HS := Lib.hid (fun w => specEntry_any s w h1000 hpos)
        have hn := list_ne (J s) hpos
        have hn0 : ((J s).toList == ([] : List UInt8)) = false := beq_eq_false_iff_ne.mpr hn
        have hn1 : ((J s).toList != ([] : List UInt8)) = true := bne_iff_ne.mpr hn
        have hn2 : (J s).toList.isEmpty = false := by rw [List.isEmpty_eq_false_iff]; exact hn
        clear ha h0 hn
        generalize entryOf (J s) = E at *
        generalize J s = t at *
        go_wp2_with fail
        refine (HJ.out _).mono ?_
        rintro e w2 ⟨rfl, hb2⟩
        go_wp2_with fail
        refine (HI.out _).mono ?_
        rintro e w3 ⟨rfl, hb3⟩
        go_wp2_with fail
        refine (HS.out _).mono ?_
        rintro e w4 ⟨rfl, hb4⟩
        go_wp2_with fail
        go_ret
        exact ⟨by simp, (hb2.trans (hb3.mono hb2.size)).trans (hb4.mono (Nat.le_trans hb2.size hb3.size))⟩
end Go.Proofs.YtnclklfhjbkjhaaDoor.Plain
