/-
  FnTagOk, the law's walk: for every int the call answers true and nothing of old turns. No condition but that the number is an int.
-/
import Derived.Test.YtnclklfhjbkjhaaGreatDoorErr
import Derived.PlainAid
namespace Go.Proofs.YtnclklfhjbkjhaaGreatDoor.Walk
open Go.RowKit

/-- A number that checkTag has something against, by its three reasons. -/
def Bad (v : Int) : Prop := v < 1 ∨ (536870911 < v ∧ v ≤ 18446744073709551615) ∨ (19000 ≤ v ∧ v ≤ 19999)

theorem check_bad (r F : Nat) (v : Int) (w : World) (hr : w.cell? ⟨r, 0, none⟩ = some (.pointer (some ⟨F, 0, none⟩))) (hF : FileOk w F) (h : Bad v) :
    Calls Tryz.prog 8 #[.pointer (some ⟨r, 0, none⟩), .iface 25 (.pointer (some ⟨F, 0, none⟩)), .int .u64 v, .int .i32 536870911] w fun e w' =>
      (∃ q : Addr, e = .returned (.iface 85 (.pointer (some q)))) ∧ Below w.heap.size w w' := by
  rcases h with h | ⟨h1, h2⟩ | ⟨h1, h2⟩
  · exact check_low r F v w hr hF h
  · exact check_high r F v w hr hF h1 h2
  · exact check_res r F v w hr hF h1 h2

theorem boxed (F : Nat) (w : World) (h : FileOk w F) :
    (w.alloc (.cells #[.pointer (some ⟨F, 0, none⟩), .pointer none, .map none, .pointer none] 34)).cell? ⟨w.heap.size, 0, none⟩ = some (.pointer (some ⟨F, 0, none⟩)) ∧
      FileOk (w.alloc (.cells #[.pointer (some ⟨F, 0, none⟩), .pointer none, .map none, .pointer none] 34)) F :=
  ⟨(Blk.new w 34 _).cell 0, h.below ((Below.refl _ w).alloc (Nat.le_refl _) _)⟩

set_option maxHeartbeats 3200000 in
set_option maxRecDepth 100000 in
theorem zz_bad (v : Int) (w : World) (h : Bad v) : Calls Tryz.prog 6 #[.int .u64 v, .int .i32 536870911] w fun e w' => e = .returned (.bool false) ∧ Below w.heap.size w w' := by
  have H := Lib.hid h
  clear h
  go_enter Tryz.func6, Tryz.ntmps6
  go_wp2_with fail
  refine (newEmpty_any _).mono ?_
  rintro e w1 ⟨F, rfl, _, hF, hb1⟩
  have hx := boxed F w1 hF
  have HX := Lib.hid hx
  clear hx hF
  go_wp2_with fail
  refine (check_bad _ F v _ HX.out.1 HX.out.2 H.out).mono ?_
  rintro e w2 ⟨⟨q, rfl⟩, hb2⟩
  have hb := Lib.hid (hb1.trans (Below.mono (Below.trans ((Below.refl _ w1).alloc (Nat.le_refl _) _) (hb2.mono (by simp))) hb1.size))
  clear hb1 hb2
  go_wp2_with fail
  go_ret
  exact ⟨rfl, hb.out⟩

set_option maxHeartbeats 3200000 in
set_option maxRecDepth 100000 in
theorem zz_ok (v : Int) (w : World) (h1 : 1 ≤ v) (h2 : v ≤ 536870911) (h3 : v < 19000 ∨ 19999 < v) : Calls Tryz.prog 6 #[.int .u64 v, .int .i32 536870911] w fun e w' => e = .returned (.bool true) ∧ Below w.heap.size w w' := by
  have H := Lib.hid (And.intro h1 (And.intro h2 h3))
  clear h1 h2 h3
  go_enter Tryz.func6, Tryz.ntmps6
  go_wp2_with fail
  refine (newEmpty_any _).mono ?_
  rintro e w1 ⟨F, rfl, _, hF, hb1⟩
  go_wp2_with fail
  refine (check_ok _ F v _ H.out.1 H.out.2.1 H.out.2.2).mono ?_
  rintro e w2 ⟨rfl, rfl⟩
  have hb := Lib.hid (hb1.alloc hb1.size (.cells #[.pointer (some ⟨F, 0, none⟩), .pointer none, .map none, .pointer none] 34))
  clear hb1
  go_wp2_with fail
  go_ret
  exact ⟨rfl, hb.out⟩

/-- A field's number. -/
def Good (n : Int) : Prop := 1 ≤ n ∧ n ≤ 536870911 ∧ (n < 19000 ∨ 19999 < n)

theorem wrap_bad (n : Int) (h1 : -9223372036854775808 ≤ n) (h2 : n ≤ 9223372036854775807) (h : ¬ Good n) : Bad (IntKind.u64.wrap n) := by
  unfold Good at h
  unfold Bad
  by_cases h0 : n < 0
  · rw [Go.PlainAid.u64_neg h0 (by omega)]
    omega
  · rw [Go.PlainAid.u64_nonneg (by omega) (by omega)]
    omega

set_option maxRecDepth 100000 in
theorem impl_yes (n : Int) (w : World) (h : Good n) : Calls Tryz.prog 4 #[.int .i64 n] w fun e w' => e = .returned (.bool true) ∧ Below w.heap.size w w' := by
  obtain ⟨h1, h2, h3⟩ := h
  have hu : IntKind.u64.wrap n = n := Go.PlainAid.u64_nonneg (by omega) (by omega)
  have HZ := Lib.hid (zz_ok n w h1 h2 h3)
  clear h1 h2 h3
  go_enter Tryz.func4, Tryz.ntmps4
  go_wp2_with fail
  refine HZ.out.mono ?_
  rintro e w1 ⟨rfl, hb⟩
  go_wp2_with fail
  go_ret
  exact ⟨rfl, hb⟩
set_option maxRecDepth 100000 in
theorem impl_no (n : Int) (w : World) (h1 : -9223372036854775808 ≤ n) (h2 : n ≤ 9223372036854775807) (h : ¬ Good n) : Calls Tryz.prog 4 #[.int .i64 n] w fun e w' => e = .returned (.bool false) ∧ Below w.heap.size w w' := by
  have HZ := Lib.hid (zz_bad _ w (wrap_bad n h1 h2 h))
  clear h1 h2 h
  generalize hu : IntKind.u64.wrap n = u at HZ
  go_enter Tryz.func4, Tryz.ntmps4
  go_wp2_with fail
  refine HZ.out.mono ?_
  rintro e w1 ⟨rfl, hb⟩
  go_wp2_with fail
  go_ret
  exact ⟨rfl, hb⟩

set_option maxRecDepth 100000 in
theorem tag_yes (n : Int) (w : World) (h : Good n) : Calls Tryz.prog 5 #[.int .i64 n] w fun e w' => e = .returned (.bool true) ∧ w = w' := by
  obtain ⟨h1, h2, h3⟩ := h
  rcases h3 with h3 | h3
  all_goals
    go_enter Tryz.func5, Tryz.ntmps5
    go_wp2_with fail
    go_ret
    exact ⟨rfl, rfl⟩
set_option maxRecDepth 100000 in
theorem tag_no (n : Int) (w : World) (h : ¬ Good n) : Calls Tryz.prog 5 #[.int .i64 n] w fun e w' => e = .returned (.bool false) ∧ w = w' := by
  have h' : n < 1 ∨ (1 ≤ n ∧ 536870911 < n) ∨ (1 ≤ n ∧ n ≤ 536870911 ∧ 19000 ≤ n ∧ n ≤ 19999) := by unfold Good at h; omega
  clear h
  rcases h' with h1 | ⟨h1, h2⟩ | ⟨h1, h2, h3, h4⟩
  · go_enter Tryz.func5, Tryz.ntmps5
    go_wp2_with fail
    go_ret
    exact ⟨rfl, rfl⟩
  · go_enter Tryz.func5, Tryz.ntmps5
    go_wp2_with fail
    go_ret
    exact ⟨rfl, rfl⟩
  · have d1 : decide (n < 19000) = false := decide_eq_false (by omega)
    have d2 : decide (19999 < n) = false := decide_eq_false (by omega)
    go_enter Tryz.func5, Tryz.ntmps5
    go_wp2_with fail
    go_ret
    exact ⟨rfl, rfl⟩

set_option maxRecDepth 100000 in
theorem tagLaw_any (n : Int) (w : World) (h1 : -9223372036854775808 ≤ n) (h2 : n ≤ 9223372036854775807) : Calls Tryz.prog 3 #[.int .i64 n] w fun e w' => e = .returned (.bool true) ∧ Below w.heap.size w w' := by
  by_cases h : Good n
  · have HI := Lib.hid (impl_yes n w h)
    have HT := Lib.hid (fun w => tag_yes n w h)
    clear h h1 h2
    go_enter Tryz.func3, Tryz.ntmps3
    go_wp2_with fail
    refine HI.out.mono ?_
    rintro e w1 ⟨rfl, hb⟩
    go_wp2_with fail
    refine (HT.out _).mono ?_
    rintro e w2 ⟨rfl, rfl⟩
    go_wp2_with fail
    go_ret
    exact ⟨rfl, hb⟩
  · have HI := Lib.hid (impl_no n w h1 h2 h)
    have HT := Lib.hid (fun w => tag_no n w h)
    clear h h1 h2
    go_enter Tryz.func3, Tryz.ntmps3
    go_wp2_with fail
    refine HI.out.mono ?_
    rintro e w1 ⟨rfl, hb⟩
    go_wp2_with fail
    refine (HT.out _).mono ?_
    rintro e w2 ⟨rfl, rfl⟩
    go_wp2_with fail
    go_ret
    exact ⟨rfl, hb⟩
end Go.Proofs.YtnclklfhjbkjhaaGreatDoor.Walk
