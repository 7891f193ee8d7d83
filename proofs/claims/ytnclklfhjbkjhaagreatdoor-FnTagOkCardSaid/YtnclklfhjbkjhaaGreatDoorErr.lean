/-
  FnTagOk, the walks of errors.New, reporter.Error, reporter.Errorf and checkTag. Conditions: the result's file is an empty file's node.
-/
import Derived.Test.YtnclklfhjbkjhaaGreatDoorInfo
import Derived.Test.YtnclklfhjbkjhaaGreatDoorAs
namespace Go.Proofs.YtnclklfhjbkjhaaGreatDoor.Walk
open Go.RowKit

set_option maxRecDepth 100000 in
theorem newErr_any (s : ByteArray) (w : World) : Calls Tryz.prog 16 #[.string s] w fun e w' => (∃ p : Addr, e = .returned (.iface 89 (.pointer (some p)))) ∧ Below w.heap.size w w' := by
  go_enter Tryz.func16, Tryz.ntmps16
  go_wp2
  go_ret
  exact ⟨⟨_, rfl⟩, (Below.refl _ w).alloc (Nat.le_refl _) _⟩

set_option maxHeartbeats 3200000 in
set_option maxRecDepth 100000 in
theorem error_any (i : Nat) (p : Addr) (w : World) : Calls Tryz.prog 15 #[.iface 48 (span i), .iface 89 (.pointer (some p))] w fun e w' =>
    (∃ q : Addr, e = .returned (.iface 85 (.pointer (some q)))) ∧ Below w.heap.size w w' := by
  have hb0 : Below w.heap.size w (w.alloc (.cells #[.nilIface] 45)) := (Below.refl _ w).alloc (Nat.le_refl _) _
  have HM := Lib.hid (as_miss (.pointer (some p)) ⟨w.heap.size, 0, none⟩ (w.alloc (.cells #[.nilIface] 45)))
  unfold span
  go_enter Tryz.func15, Tryz.ntmps15
  go_wp2_with fail
  refine HM.out.mono ?_
  rintro e w1 ⟨rfl, hb1⟩
  have hb := hb0.trans (hb1.mono (by simp))
  clear hb0 hb1 HM
  go_wp2_with fail
  go_ret
  exact ⟨⟨_, rfl⟩, hb.alloc hb.size _⟩

set_option maxHeartbeats 3200000 in
set_option maxRecDepth 100000 in
theorem errorf_any (i : Nat) (s : ByteArray) (A : Option Addr) (n c : Nat) (w : World) : Calls Tryz.prog 12 #[.iface 48 (span i), .string s, .slice A n c] w fun e w' =>
    (∃ q : Addr, e = .returned (.iface 85 (.pointer (some q)))) ∧ Below w.heap.size w w' := by
  go_enter Tryz.func12, Tryz.ntmps12
  go_wp2_with fail
  refine (newErr_any s _).mono ?_
  rintro e w1 ⟨⟨p, rfl⟩, hb1⟩
  go_wp2_with fail
  refine (error_any i p _).mono ?_
  rintro e w2 ⟨⟨q, rfl⟩, hb2⟩
  have hb := hb1.trans (hb2.mono hb1.size)
  clear hb1 hb2
  go_wp2_with fail
  go_ret
  exact ⟨⟨q, rfl⟩, hb⟩

set_option maxHeartbeats 3200000 in
set_option maxRecDepth 100000 in
theorem check_low (r F : Nat) (v : Int) (w : World) (hr : w.cell? ⟨r, 0, none⟩ = some (.pointer (some ⟨F, 0, none⟩))) (hF : FileOk w F) (h1 : v < 1) :
    Calls Tryz.prog 8 #[.pointer (some ⟨r, 0, none⟩), .iface 25 (.pointer (some ⟨F, 0, none⟩)), .int .u64 v, .int .i32 536870911] w fun e w' =>
      (∃ q : Addr, e = .returned (.iface 85 (.pointer (some q)))) ∧ Below w.heap.size w w' := by
  have HF := Lib.hid hF
  clear hF
  go_enter Tryz.func8, Tryz.ntmps8
  go_wp2_with fail
  refine (nodeInfo13 F _ HF.out).mono ?_
  rintro e w1 ⟨⟨i, rfl⟩, hb1⟩
  go_wp2_with fail
  refine (errorf_any i _ _ _ _ _).mono ?_
  rintro e w2 ⟨⟨q, rfl⟩, hb2⟩
  have hb := Lib.hid (hb1.trans (Below.mono (Below.trans ((Below.refl _ w1).alloc (Nat.le_refl _) _) (hb2.mono (by simp))) hb1.size))
  clear hb1 hb2
  go_wp2_with fail
  go_ret
  exact ⟨⟨q, rfl⟩, hb.out⟩

set_option maxHeartbeats 3200000 in
set_option maxRecDepth 100000 in
theorem check_high (r F : Nat) (v : Int) (w : World) (hr : w.cell? ⟨r, 0, none⟩ = some (.pointer (some ⟨F, 0, none⟩))) (hF : FileOk w F) (h1 : 536870911 < v) (h2 : v ≤ 18446744073709551615) :
    Calls Tryz.prog 8 #[.pointer (some ⟨r, 0, none⟩), .iface 25 (.pointer (some ⟨F, 0, none⟩)), .int .u64 v, .int .i32 536870911] w fun e w' =>
      (∃ q : Addr, e = .returned (.iface 85 (.pointer (some q)))) ∧ Below w.heap.size w w' := by
  have h0 : ¬ v < 1 := by omega
  have HF := Lib.hid hF
  clear hF
  go_enter Tryz.func8, Tryz.ntmps8
  go_wp2_with fail
  refine (nodeInfo13 F _ HF.out).mono ?_
  rintro e w1 ⟨⟨i, rfl⟩, hb1⟩
  go_wp2_with fail
  refine (errorf_any i _ _ _ _ _).mono ?_
  rintro e w2 ⟨⟨q, rfl⟩, hb2⟩
  have hb := Lib.hid (hb1.trans (Below.mono (Below.trans ((Below.refl _ w1).alloc (Nat.le_refl _) _) (hb2.mono (by simp))) hb1.size))
  clear hb1 hb2
  go_wp2_with fail
  go_ret
  exact ⟨⟨q, rfl⟩, hb.out⟩

set_option maxHeartbeats 3200000 in
set_option maxRecDepth 100000 in
theorem check_res (r F : Nat) (v : Int) (w : World) (hr : w.cell? ⟨r, 0, none⟩ = some (.pointer (some ⟨F, 0, none⟩))) (hF : FileOk w F) (h1 : 19000 ≤ v) (h2 : v ≤ 19999) :
    Calls Tryz.prog 8 #[.pointer (some ⟨r, 0, none⟩), .iface 25 (.pointer (some ⟨F, 0, none⟩)), .int .u64 v, .int .i32 536870911] w fun e w' =>
      (∃ q : Addr, e = .returned (.iface 85 (.pointer (some q)))) ∧ Below w.heap.size w w' := by
  have h0 : ¬ v < 1 := by omega
  have h3 : ¬ 536870911 < v := by omega
  have HF := Lib.hid hF
  clear hF
  go_enter Tryz.func8, Tryz.ntmps8
  go_wp2_with fail
  refine (nodeInfo13 F _ HF.out).mono ?_
  rintro e w1 ⟨⟨i, rfl⟩, hb1⟩
  go_wp2_with fail
  refine (errorf_any i _ _ _ _ _).mono ?_
  rintro e w2 ⟨⟨q, rfl⟩, hb2⟩
  have hb := Lib.hid (hb1.trans (Below.mono (Below.trans ((Below.refl _ w1).alloc (Nat.le_refl _) _) (hb2.mono (by simp))) hb1.size))
  clear hb1 hb2
  go_wp2_with fail
  go_ret
  exact ⟨⟨q, rfl⟩, hb.out⟩

set_option maxHeartbeats 3200000 in
set_option maxRecDepth 100000 in
theorem check_ok (r F : Nat) (v : Int) (w : World) (h1 : 1 ≤ v) (h2 : v ≤ 536870911) (h3 : v < 19000 ∨ 19999 < v) :
    Calls Tryz.prog 8 #[.pointer (some ⟨r, 0, none⟩), .iface 25 (.pointer (some ⟨F, 0, none⟩)), .int .u64 v, .int .i32 536870911] w fun e w' =>
      e = .returned .nilIface ∧ w = w' := by
  rcases h3 with h3 | h3
  all_goals
    go_enter Tryz.func8, Tryz.ntmps8
    go_wp2_with fail
    go_ret
    exact ⟨rfl, rfl⟩
end Go.Proofs.YtnclklfhjbkjhaaGreatDoor.Walk
