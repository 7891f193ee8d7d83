/-
  FnJsonName, the law's walk: for every text the call answers true and nothing of old turns. No condition.
-/
import Derived.Test.YtnclklfhjbkjhaaDoorJson
namespace Go.Proofs.YtnclklfhjbkjhaaDoor.Plain
open Go.RowKit Go.Proofs.YtnclklfhjbkjhaaDoorW.PrintWords Go.Proofs.YtnclklfhjbkjhaaDoor.PFnJsonName

theorem implJson_any (s : ByteArray) (w : World) (hs : s.size ≤ 1000) (ha : Ascii s) :
    Calls Tryd.prog 6 #[.string s] w fun e w' => e = .returned (.string (J s)) ∧ Below w.heap.size w w' := by
  go_enter Tryd.func6, Tryd.ntmps6
  go_wp2_with fail
  refine (jsonName_any s _ hs ha).mono ?_
  rintro e w1 ⟨rfl, hb⟩
  go_wp2_with fail
  go_ret
  exact ⟨rfl, hb⟩

theorem below_drawn {w w1 : World} (n : Nat) (h : Below (w.drewN n).heap.size (w.drewN n) w1) : Below w.heap.size w w1 := (below_drewN (Below.refl _ w) n).trans h

set_option maxHeartbeats 1600000 in
theorem jsonLaw_any (s : ByteArray) (w : World) : Calls Tryd.prog 3 #[.string s] w fun e w' => e = .returned (.bool true) ∧ Below w.heap.size w w' := by
  by_cases big : 2147483647 < s.size
  · go_enter Tryd.func3, Tryd.ntmps3
    go_wp2_with fail
    go_ret
    exact ⟨rfl, Below.refl _ _⟩
  · have hsz : s.size ≤ 2147483647 := by omega
    clear big
    obtain ⟨k, b, hb, hf⟩ := plain_any s 1000 hsz
    have HB := Lib.hid hb
    clear hb
    cases b with
    | false =>
      go_enter Tryd.func3, Tryd.ntmps3
      go_wp2_with fail
      refine (laws_plainText14.calls k s 1000 false _ HB.out).mono ?_
      rintro e w1 ⟨rfl, ⟨n, rfl⟩⟩
      go_wp2_with fail
      go_ret
      exact ⟨rfl, below_drewN (Below.refl _ _) n⟩
    | true =>
      obtain ⟨hm, ha⟩ := hf rfl
      have h1000 : s.size ≤ 1000 := by omega
      have HA := Lib.hid ha
      clear ha hf
      go_enter Tryd.func3, Tryd.ntmps3
      go_wp2_with fail
      refine (laws_plainText14.calls k s 1000 true _ HB.out).mono ?_
      rintro e w1 ⟨rfl, ⟨n, rfl⟩⟩
      go_wp2_with fail
      refine (implJson_any s _ h1000 HA.out).mono ?_
      rintro e w2 ⟨rfl, hb2⟩
      go_wp2_with fail
      refine (spec_Json.calls (s.size + 1) s (J s) _ (json_any s hsz)).mono ?_
      rintro e w3 ⟨rfl, hb3⟩
      go_wp2_with fail
      go_ret
      exact ⟨by simp, below_drawn n (hb2.trans (hb3.mono hb2.size))⟩
end Go.Proofs.YtnclklfhjbkjhaaDoor.Plain
