/-
  FnJsonName, the law's walk: for every text the call answers true and nothing of old turns. No condition.
-/
import Derived.Test.YtnclklfhjbkjhaaDoorJson
namespace Go.Proofs.YtnclklfhjbkjhaaDoor.Plain
open Go.RowKit

theorem implJson_any (s : ByteArray) (w : World) (hs : s.size ≤ 1000) (ha : Ascii s) :
    Calls Tryd.prog 6 #[.string s] w fun e w' => e = .returned (.string (J s)) ∧ Below w.heap.size w w' := by
  go_enter Tryd.func6, Tryd.ntmps6
  go_wp2_with fail
  refine (jsonName_any s _ hs ha).mono ?_
  rintro e w1 ⟨rfl, hb⟩
  go_wp2_with fail
  go_ret
  exact ⟨rfl, hb⟩

set_option maxHeartbeats 1600000 in
theorem jsonLaw_any (s : ByteArray) (w : World) : Calls Tryd.prog 3 #[.string s] w fun e w' => e = .returned (.bool true) ∧ Below w.heap.size w w' := by
  by_cases big : 2147483647 < s.size
  · go_enter Tryd.func3, Tryd.ntmps3
    go_wp2_with fail
    go_ret
    exact ⟨rfl, Below.refl _ _⟩
  · have hsz : s.size ≤ 2147483647 := by omega
    clear big
    go_enter Tryd.func3, Tryd.ntmps3
    go_wp2_with fail
    refine (plain14_any s _ hsz).mono ?_
    rintro e w1 ⟨b, rfl, hf, rfl⟩
    cases b with
    | false =>
      go_wp2_with fail
      go_ret
      exact ⟨rfl, Below.refl _ _⟩
    | true =>
      obtain ⟨hm, ha⟩ := hf rfl
      have h1000 : s.size ≤ 1000 := by omega
      have HA := Lib.hid ha
      clear ha hf hm
      go_wp2_with fail
      refine (implJson_any s _ h1000 HA.out).mono ?_
      rintro e w2 ⟨rfl, hb2⟩
      go_wp2_with fail
      refine (json_any s _ hsz).mono ?_
      rintro e w3 ⟨rfl, hb3⟩
      go_wp2_with fail
      go_ret
      exact ⟨by simp, hb2.trans (hb3.mono hb2.size)⟩
end Go.Proofs.YtnclklfhjbkjhaaDoor.Plain
