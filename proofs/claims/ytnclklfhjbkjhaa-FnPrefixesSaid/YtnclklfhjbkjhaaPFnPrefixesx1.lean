-- PRINTED BY print.sh 35421559b90ae4d0a3588c463048766b98c2df88dd9212a6774a882060cdf62d: not written by this session
import Derived.Test.YtnclklfhjbkjhaaPFnPrefixesx0
namespace Go.Proofs.Ytnclklfhjbkjhaa.PFnPrefixes
open Go.RowKit Go.Proofs.YtnclklfhjbkjhaaW.PrintWords Go.Proofs.YtnclklfhjbkjhaaW.PrintLast Go.Proofs.YtnclklfhjbkjhaaW.PrintMore
attribute [local go_sem] max2_int min2_int max_two min_two max_three min_three max_four min_four   -- for this text's walks alone
set_option linter.unusedVariables false
set_option linter.unusedSimpArgs false

/-! ### laws_zzFits1: function 4 -/
def laws_zzFits1.l0 : Nat → List ByteArray → Int → Int → Option (Bool)
  | 0, _, _, _ => none
  | k + 1, x8, x9, x10 => if x10 < x9 then (if 0 ≤ x10 then (if x10 < (x8.length : Int) then (if ((rdOf ByteArray.empty x8 x10).size : Int) > 2147483647 then (some false) else (laws_zzFits1.l0 k x8 x9 (wrap64 (x10 + 1)))) else (none)) else (none)) else (some true)
def laws_zzFits1.f (k : Nat) (l0 : List ByteArray) : Option (Bool) := if (l0.length : Int) > 2147483647 then (some false) else (laws_zzFits1.l0 k l0 (l0.length : Int) 0)
theorem laws_zzFits1.mono_l : ∀ k, (∀ y0 y1 y2, LeO (laws_zzFits1.l0 k y0 y1 y2) (laws_zzFits1.l0 (k + 1) y0 y1 y2))
  | 0 => fun _ _ _ r h => by simp [laws_zzFits1.l0] at h
  | k + 1 => by
    have ih0 := laws_zzFits1.mono_l k
    · intro y0 y1 y2
      unfold laws_zzFits1.l0
      repeat' first
      | (with_reducible exact ih0 _ _ _)
      | (with_reducible exact LeO.refl _)
      | (with_reducible exact LeO.none _)
      | (with_reducible refine LeO.ite ?_ ?_)
      | (with_reducible refine LeO.bind ?_ (fun _ => ?_))
      | exact ih0 _ _ _
      | exact LeO.none _
      | refine LeO.ite ?_ ?_
      | refine LeO.bind ?_ (fun _ => ?_)
theorem laws_zzFits1.mono : ∀ a0 k, LeO (laws_zzFits1.f k a0) (laws_zzFits1.f (k + 1) a0) := by
  intro a0 k
  have ih0 := laws_zzFits1.mono_l k
  unfold laws_zzFits1.f
  repeat' first
      | (with_reducible exact ih0 _ _ _)
      | (with_reducible exact LeO.refl _)
      | (with_reducible exact LeO.none _)
      | (with_reducible refine LeO.ite ?_ ?_)
      | (with_reducible refine LeO.bind ?_ (fun _ => ?_))
      | exact ih0 _ _ _
      | exact LeO.none _
      | refine LeO.ite ?_ ?_
      | refine LeO.bind ?_ (fun _ => ?_)
set_option maxHeartbeats 8000000 in
set_option maxRecDepth 100000 in
theorem laws_zzFits1.calls (k : Nat) (A0 : Option Addr) (c0 : Nat) (l0 : List ByteArray) (r : Bool) (w : World) (hr0 : Kd.C Kd.string w A0 l0.length l0) (hc0 : l0.length ≤ c0) (h : laws_zzFits1.f k l0 = some r) :
    Calls Try.prog 4 #[.slice A0 l0.length c0] w fun e w' => e = .returned (.bool r) ∧ Drawn0 w w' := by
  have HR0 := Aside0.mk hr0
  have HC0 := Aside0.mk hc0
  clear hr0 hc0
  have H : (if (l0.length : Int) > 2147483647 then (some false) else (laws_zzFits1.l0 k l0 (l0.length : Int) 0)) = some r := h
  clear h
  by_cases c2 : (l0.length : Int) > 2147483647
  · rw [if_pos c2] at H
    have c2b0 : decide (2147483647 < (l0.length : Int)) = true := decide_eq_true c2
    have c2b1 : decide (2147483647 < l0.length) = true := decide_eq_true (by omega)
    clear c2
    obtain rfl := Option.some.inj H
    go_enter Try.func4, Try.ntmps4
    go_wp2
    go_ret
    exact ⟨by first | rfl | (simp; done) | (simp [*]; done), by repeat (first | exact Drawn0.refl _ | apply Drawn0.step)⟩
  · rw [if_neg c2] at H
    have c2b0 : decide (2147483647 < (l0.length : Int)) = false := decide_eq_false c2
    have c2b1 : decide (2147483647 < l0.length) = false := decide_eq_false (by omega)
    clear c2
    have H' := Aside0.mk H
    clear H
    go_enter Try.func4, Try.ntmps4
    go_wp2
    go_loopg [10] k (fun kq v10 w' => ∃ (x10_1 : Int), v10 = .int .i64 x10_1 ∧ Aside0 (laws_zzFits1.l0 kq l0 (l0.length : Int) x10_1 = some r) ∧ Aside0 (kq ≤ k) ∧ Drawn0 w w')
    case atStart => exact ⟨(0), (by first | rfl | (simp; done) | (simp [*]; done)), H', ⟨Nat.le_refl _⟩, by repeat (first | exact Drawn0.refl _ | apply Drawn0.step)⟩
    case round =>
      clear H'
      try clear c2
      try clear c2b0
      try clear c2b1
      try clear p2
      obtain ⟨x10_1, rfl, HA, HK1, ⟨m1, rfl⟩⟩ := hrel
      cases gk with
      | zero => exact absurd HA.out (by simp [laws_zzFits1.l0])
      | succ k1 =>
        have H := HA.out
        clear HA
        simp only [laws_zzFits1.l0] at H
        by_cases c3 : x10_1 < (l0.length : Int)
        · rw [if_pos c3] at H
          have c3b0 : decide (x10_1 < (l0.length : Int)) = true := decide_eq_true c3
          clear c3
          by_cases c4 : 0 ≤ x10_1
          · rw [if_pos c4] at H
            have c4b0 : decide (0 ≤ x10_1) = true := decide_eq_true c4
            clear c4
            by_cases c5 : x10_1 < (l0.length : Int)
            · rw [if_pos c5] at H
              have c5b0 : decide (x10_1 < (l0.length : Int)) = true := decide_eq_true c5
              clear c5
              by_cases c6 : ((rdOf ByteArray.empty l0 x10_1).size : Int) > 2147483647
              · rw [if_pos c6] at H
                have c6b0 : decide (2147483647 < ((rdOf ByteArray.empty l0 x10_1).size : Int)) = true := decide_eq_true c6
                have c6b1 : decide (2147483647 < (rdOf ByteArray.empty l0 x10_1).size) = true := decide_eq_true (by omega)
                clear c6
                obtain rfl := Option.some.inj H
                have p101 : 0 ≤ (x10_1 : Int) := of_decide_eq_true (by first | (with_reducible assumption) | assumption)
                have q101 : x10_1 < (l0.length : Int) := of_decide_eq_true (by first | (with_reducible assumption) | assumption)
                obtain ⟨ad101, e101, hx101_0⟩ := Kd.at_string HR0.out x10_1 p101 q101
                cases e101
                replace p101 := eq_true p101
                replace q101 := eq_true q101
                go_wp2
                go_ret
                exact ⟨by first | rfl | (simp; done) | (simp [*]; done), by repeat (first | exact Drawn0.refl _ | apply Drawn0.step)⟩
              · rw [if_neg c6] at H
                have c6b0 : decide (2147483647 < ((rdOf ByteArray.empty l0 x10_1).size : Int)) = false := decide_eq_false c6
                have c6b1 : decide (2147483647 < (rdOf ByteArray.empty l0 x10_1).size) = false := decide_eq_false (by omega)
                clear c6
                have H' := Aside0.mk H
                clear H
                have p101 : 0 ≤ (x10_1 : Int) := of_decide_eq_true (by first | (with_reducible assumption) | assumption)
                have q101 : x10_1 < (l0.length : Int) := of_decide_eq_true (by first | (with_reducible assumption) | assumption)
                obtain ⟨ad101, e101, hx101_0⟩ := Kd.at_string HR0.out x10_1 p101 q101
                cases e101
                replace p101 := eq_true p101
                replace q101 := eq_true q101
                go_wp2
                go_roundg k1
                case measure => have := HK1.out; omega
                case rel => exact ⟨(wrap64 (x10_1 + 1)), (by first | rfl | (simp; done) | (simp [*]; done)), H', ⟨by have := HK1.out; omega⟩, by repeat (first | exact Drawn0.refl _ | apply Drawn0.step)⟩
            · rw [if_neg c5] at H
              exact absurd H (by simp)
          · rw [if_neg c4] at H
            exact absurd H (by simp)
        · rw [if_neg c3] at H
          have c3b0 : decide (x10_1 < (l0.length : Int)) = false := decide_eq_false c3
          clear c3
          obtain rfl := Option.some.inj H
          go_wp2
          go_ret
          exact ⟨by first | rfl | (simp; done) | (simp [*]; done), by repeat (first | exact Drawn0.refl _ | apply Drawn0.step)⟩

/-! ### laws_plainText14: function 5 -/
def laws_plainText14.l0 : Nat → ByteArray → Int → Int → Option (Bool)
  | 0, _, _, _ => none
  | k + 1, x0, x1, x5 => if x5 < (x0.size : Int) then (if 0 ≤ x5 then (if (bt x0 x5) > 126 then (some false) else (if (bt x0 x5) < 32 then (some false) else (laws_plainText14.l0 k x0 x1 (wrap64 (x5 + 1))))) else (none)) else (if (x0.size : Int) > 0 then (some (decide ((x0.size : Int) ≤ x1))) else (some false))
def laws_plainText14.f (k : Nat) (a0 : ByteArray) (a1 : Int) : Option (Bool) := laws_plainText14.l0 k a0 a1 0
theorem laws_plainText14.mono_l : ∀ k, (∀ y0 y1 y2, LeO (laws_plainText14.l0 k y0 y1 y2) (laws_plainText14.l0 (k + 1) y0 y1 y2))
  | 0 => fun _ _ _ r h => by simp [laws_plainText14.l0] at h
  | k + 1 => by
    have ih0 := laws_plainText14.mono_l k
    · intro y0 y1 y2
      unfold laws_plainText14.l0
      repeat' first
      | (with_reducible exact ih0 _ _ _)
      | (with_reducible exact LeO.refl _)
      | (with_reducible exact LeO.none _)
      | (with_reducible refine LeO.ite ?_ ?_)
      | (with_reducible refine LeO.bind ?_ (fun _ => ?_))
      | exact ih0 _ _ _
      | exact LeO.none _
      | refine LeO.ite ?_ ?_
      | refine LeO.bind ?_ (fun _ => ?_)
theorem laws_plainText14.mono : ∀ a0 a1 k, LeO (laws_plainText14.f k a0 a1) (laws_plainText14.f (k + 1) a0 a1) := by
  intro a0 a1 k
  have ih0 := laws_plainText14.mono_l k
  unfold laws_plainText14.f
  repeat' first
      | (with_reducible exact ih0 _ _ _)
      | (with_reducible exact LeO.refl _)
      | (with_reducible exact LeO.none _)
      | (with_reducible refine LeO.ite ?_ ?_)
      | (with_reducible refine LeO.bind ?_ (fun _ => ?_))
      | exact ih0 _ _ _
      | exact LeO.none _
      | refine LeO.ite ?_ ?_
      | refine LeO.bind ?_ (fun _ => ?_)
set_option maxHeartbeats 8000000 in
set_option maxRecDepth 100000 in
theorem laws_plainText14.calls (k : Nat) (a0 : ByteArray) (a1 : Int) (r : Bool) (w : World) (h : laws_plainText14.f k a0 a1 = some r) :
    Calls Try.prog 5 #[.string a0, .int .i64 a1] w fun e w' => e = .returned (.bool r) ∧ Drawn0 w w' := by
  have H : (laws_plainText14.l0 k a0 a1 0) = some r := h
  clear h
  have H' := Aside0.mk H
  clear H
  go_enter Try.func5, Try.ntmps5
  go_wp2
  go_loopg [5] k (fun kq v5 w' => ∃ (x5_1 : Int), v5 = .int .i64 x5_1 ∧ Aside0 (laws_plainText14.l0 kq a0 a1 x5_1 = some r) ∧ Aside0 (kq ≤ k) ∧ Drawn0 w w')
  case atStart => exact ⟨(0), (by first | rfl | (simp; done) | (simp [*]; done)), H', ⟨Nat.le_refl _⟩, by repeat (first | exact Drawn0.refl _ | apply Drawn0.step)⟩
  case round =>
    clear H'
    try clear p2
    obtain ⟨x5_1, rfl, HA, HK1, ⟨m1, rfl⟩⟩ := hrel
    cases gk with
    | zero => exact absurd HA.out (by simp [laws_plainText14.l0])
    | succ k1 =>
      have H := HA.out
      clear HA
      simp only [laws_plainText14.l0] at H
      by_cases c3 : x5_1 < (a0.size : Int)
      · rw [if_pos c3] at H
        have c3b0 : decide (x5_1 < (a0.size : Int)) = true := decide_eq_true c3
        clear c3
        by_cases c4 : 0 ≤ x5_1
        · rw [if_pos c4] at H
          have c4b0 : decide (0 ≤ x5_1) = true := decide_eq_true c4
          clear c4
          by_cases c6 : (bt a0 x5_1) > 126
          · rw [if_pos c6] at H
            have c6b0 : decide (126 < (bt a0 x5_1)) = true := decide_eq_true c6
            clear c6
            obtain rfl := Option.some.inj H
            have p5 : 0 ≤ (x5_1 : Int) := of_decide_eq_true (by first | (with_reducible assumption) | assumption)
            have q5 : x5_1 < (a0.size : Int) := of_decide_eq_true (by first | (with_reducible assumption) | assumption)
            have hx5 := bt_at a0 x5_1
            replace p5 := eq_true p5
            replace q5 := eq_true q5
            go_wp2
            go_ret
            exact ⟨by first | rfl | (simp; done) | (simp [*]; done), by repeat (first | exact Drawn0.refl _ | apply Drawn0.step)⟩
          · rw [if_neg c6] at H
            have c6b0 : decide (126 < (bt a0 x5_1)) = false := decide_eq_false c6
            clear c6
            by_cases c8 : (bt a0 x5_1) < 32
            · rw [if_pos c8] at H
              have c8b0 : decide ((bt a0 x5_1) < 32) = true := decide_eq_true c8
              clear c8
              obtain rfl := Option.some.inj H
              have p5 : 0 ≤ (x5_1 : Int) := of_decide_eq_true (by first | (with_reducible assumption) | assumption)
              have q5 : x5_1 < (a0.size : Int) := of_decide_eq_true (by first | (with_reducible assumption) | assumption)
              have hx5 := bt_at a0 x5_1
              replace p5 := eq_true p5
              replace q5 := eq_true q5
              have p7 : 0 ≤ (x5_1 : Int) := of_decide_eq_true (by first | (with_reducible assumption) | assumption)
              have q7 : x5_1 < (a0.size : Int) := of_decide_eq_true (by first | (with_reducible assumption) | assumption)
              have hx7 := bt_at a0 x5_1
              replace p7 := eq_true p7
              replace q7 := eq_true q7
              go_wp2
              go_ret
              exact ⟨by first | rfl | (simp; done) | (simp [*]; done), by repeat (first | exact Drawn0.refl _ | apply Drawn0.step)⟩
            · rw [if_neg c8] at H
              have c8b0 : decide ((bt a0 x5_1) < 32) = false := decide_eq_false c8
              clear c8
              have H' := Aside0.mk H
              clear H
              have p5 : 0 ≤ (x5_1 : Int) := of_decide_eq_true (by first | (with_reducible assumption) | assumption)
              have q5 : x5_1 < (a0.size : Int) := of_decide_eq_true (by first | (with_reducible assumption) | assumption)
              have hx5 := bt_at a0 x5_1
              replace p5 := eq_true p5
              replace q5 := eq_true q5
              have p7 : 0 ≤ (x5_1 : Int) := of_decide_eq_true (by first | (with_reducible assumption) | assumption)
              have q7 : x5_1 < (a0.size : Int) := of_decide_eq_true (by first | (with_reducible assumption) | assumption)
              have hx7 := bt_at a0 x5_1
              replace p7 := eq_true p7
              replace q7 := eq_true q7
              go_wp2
              go_roundg k1
              case measure => have := HK1.out; omega
              case rel => exact ⟨(wrap64 (x5_1 + 1)), (by first | rfl | (simp; done) | (simp [*]; done)), H', ⟨by have := HK1.out; omega⟩, by repeat (first | exact Drawn0.refl _ | apply Drawn0.step)⟩
        · rw [if_neg c4] at H
          exact absurd H (by simp)
      · rw [if_neg c3] at H
        have c3b0 : decide (x5_1 < (a0.size : Int)) = false := decide_eq_false c3
        clear c3
        by_cases c9 : (a0.size : Int) > 0
        · rw [if_pos c9] at H
          have c9b0 : decide (0 < (a0.size : Int)) = true := decide_eq_true c9
          have c9b1 : decide (0 < a0.size) = true := decide_eq_true (by omega)
          clear c9
          obtain rfl := Option.some.inj H
          go_wp2
          go_ret
          exact ⟨by first | rfl | (simp; done) | (simp [*]; done), by repeat (first | exact Drawn0.refl _ | apply Drawn0.step)⟩
        · rw [if_neg c9] at H
          have c9b0 : decide (0 < (a0.size : Int)) = false := decide_eq_false c9
          have c9b1 : decide (0 < a0.size) = false := decide_eq_false (by omega)
          clear c9
          obtain rfl := Option.some.inj H
          go_wp2
          go_ret
          exact ⟨by first | rfl | (simp; done) | (simp [*]; done), by repeat (first | exact Drawn0.refl _ | apply Drawn0.step)⟩

/-! ### spec_Last: function 6 -/
def spec_Last.l0 : Nat → ByteArray → Int → Option (ByteArray)
  | 0, _, _ => none
  | k + 1, x0, x3 => if x3 ≥ 0 then (if 0 ≤ x3 then (if x3 < (x0.size : Int) then (if (bt x0 x3) = 46 then (if 0 ≤ (wrap64 (x3 + 1)) then (if (wrap64 (x3 + 1)) ≤ (x0.size : Int) then (some (x0.extract ((wrap64 (x3 + 1)) : Int).toNat x0.size)) else (none)) else (none)) else (spec_Last.l0 k x0 (wrap64 (x3 - 1)))) else (none)) else (none)) else (some x0)
def spec_Last.f (k : Nat) (a0 : ByteArray) : Option (ByteArray) := spec_Last.l0 k a0 (wrap64 ((a0.size : Int) - 1))
theorem spec_Last.mono_l : ∀ k, (∀ y0 y1, LeO (spec_Last.l0 k y0 y1) (spec_Last.l0 (k + 1) y0 y1))
  | 0 => fun _ _ r h => by simp [spec_Last.l0] at h
  | k + 1 => by
    have ih0 := spec_Last.mono_l k
    · intro y0 y1
      unfold spec_Last.l0
      repeat' first
      | (with_reducible exact ih0 _ _)
      | (with_reducible exact LeO.refl _)
      | (with_reducible exact LeO.none _)
      | (with_reducible refine LeO.ite ?_ ?_)
      | (with_reducible refine LeO.bind ?_ (fun _ => ?_))
      | exact ih0 _ _
      | exact LeO.none _
      | refine LeO.ite ?_ ?_
      | refine LeO.bind ?_ (fun _ => ?_)
theorem spec_Last.mono : ∀ a0 k, LeO (spec_Last.f k a0) (spec_Last.f (k + 1) a0) := by
  intro a0 k
  have ih0 := spec_Last.mono_l k
  unfold spec_Last.f
  repeat' first
      | (with_reducible exact ih0 _ _)
      | (with_reducible exact LeO.refl _)
      | (with_reducible exact LeO.none _)
      | (with_reducible refine LeO.ite ?_ ?_)
      | (with_reducible refine LeO.bind ?_ (fun _ => ?_))
      | exact ih0 _ _
      | exact LeO.none _
      | refine LeO.ite ?_ ?_
      | refine LeO.bind ?_ (fun _ => ?_)
set_option maxHeartbeats 8000000 in
set_option maxRecDepth 100000 in
theorem spec_Last.calls (k : Nat) (a0 : ByteArray) (r : ByteArray) (w : World) (h : spec_Last.f k a0 = some r) :
    Calls Try.prog 6 #[.string a0] w fun e w' => e = .returned (.string r) ∧ Drawn0 w w' := by
  have H : (spec_Last.l0 k a0 (wrap64 ((a0.size : Int) - 1))) = some r := h
  clear h
  have H' := Aside0.mk H
  clear H
  go_enter Try.func6, Try.ntmps6
  go_wp2
  go_loopg [3] k (fun kq v3 w' => ∃ (x3_1 : Int), v3 = .int .i64 x3_1 ∧ Aside0 (spec_Last.l0 kq a0 x3_1 = some r) ∧ Aside0 (kq ≤ k) ∧ Drawn0 w w')
  case atStart => exact ⟨(wrap64 ((a0.size : Int) - 1)), (by first | rfl | (simp; done) | (simp [*]; done)), H', ⟨Nat.le_refl _⟩, by repeat (first | exact Drawn0.refl _ | apply Drawn0.step)⟩
  case round =>
    clear H'
    obtain ⟨x3_1, rfl, HA, HK1, ⟨m1, rfl⟩⟩ := hrel
    cases gk with
    | zero => exact absurd HA.out (by simp [spec_Last.l0])
    | succ k1 =>
      have H := HA.out
      clear HA
      simp only [spec_Last.l0] at H
      by_cases c2 : x3_1 ≥ 0
      · rw [if_pos c2] at H
        have c2b0 : decide (0 ≤ x3_1) = true := decide_eq_true c2
        clear c2
        by_cases c3 : 0 ≤ x3_1
        · rw [if_pos c3] at H
          have c3b0 : decide (0 ≤ x3_1) = true := decide_eq_true c3
          clear c3
          by_cases c4 : x3_1 < (a0.size : Int)
          · rw [if_pos c4] at H
            have c4b0 : decide (x3_1 < (a0.size : Int)) = true := decide_eq_true c4
            clear c4
            by_cases c6 : (bt a0 x3_1) = 46
            · rw [if_pos c6] at H
              have c6b0 : ((bt a0 x3_1) == 46) = true := beq_iff_eq.mpr c6
              have c6b1 : ((bt a0 x3_1) != 46) = false := bne_eq_false_iff_eq.mpr c6
              clear c6
              obtain ⟨ji7, hji7⟩ : ∃ j_ : Int, (wrap64 (x3_1 + 1)) = j_ := ⟨_, rfl⟩
              replace H : (if 0 ≤ (ji7) then (if (ji7) ≤ (a0.size : Int) then (some (a0.extract ((ji7) : Int).toNat a0.size)) else (none)) else (none)) = some r := by first | (rw [hji7] at H; exact H) | (simp only [hji7] at H ⊢; exact H)
              have hji7w : (IntKind.i64.wrap (x3_1 + 1)) = ji7 := (i64_w _).trans hji7
              by_cases c8 : 0 ≤ (ji7)
              · rw [if_pos c8] at H
                have c8b0 := eq_true c8
                have c8b1 : decide (0 ≤ (ji7)) = true := decide_eq_true c8
                clear c8
                by_cases c9 : (ji7) ≤ (a0.size : Int)
                · rw [if_pos c9] at H
                  have c9b0 := eq_true c9
                  have c9b1 : decide ((ji7) ≤ (a0.size : Int)) = true := decide_eq_true c9
                  clear c9
                  obtain rfl := Option.some.inj H
                  have p5 : 0 ≤ (x3_1 : Int) := of_decide_eq_true (by first | (with_reducible assumption) | assumption)
                  have q5 : x3_1 < (a0.size : Int) := of_decide_eq_true (by first | (with_reducible assumption) | assumption)
                  have hx5 := bt_at a0 x3_1
                  replace p5 := eq_true p5
                  replace q5 := eq_true q5
                  go_wp2
                  go_ret
                  exact ⟨by first | rfl | (simp; done) | (simp only [← hji7] <;> (first | rfl | simp)) | (simp [*]; done), by repeat (first | exact Drawn0.refl _ | apply Drawn0.step)⟩
                · rw [if_neg c9] at H
                  exact absurd H (by simp)
              · rw [if_neg c8] at H
                exact absurd H (by simp)
            · rw [if_neg c6] at H
              have c6b0 : ((bt a0 x3_1) == 46) = false := beq_eq_false_iff_ne.mpr c6
              have c6b1 : ((bt a0 x3_1) != 46) = true := bne_iff_ne.mpr c6
              have H' := Aside0.mk H
              clear H
              have p5 : 0 ≤ (x3_1 : Int) := of_decide_eq_true (by first | (with_reducible assumption) | assumption)
              have q5 : x3_1 < (a0.size : Int) := of_decide_eq_true (by first | (with_reducible assumption) | assumption)
              have hx5 := bt_at a0 x3_1
              replace p5 := eq_true p5
              replace q5 := eq_true q5
              go_wp2
              go_roundg k1
              case measure => have := HK1.out; omega
              case rel => exact ⟨(wrap64 (x3_1 - 1)), (by first | rfl | (simp; done) | (simp [*]; done)), H', ⟨by have := HK1.out; omega⟩, by repeat (first | exact Drawn0.refl _ | apply Drawn0.step)⟩
          · rw [if_neg c4] at H
            exact absurd H (by simp)
        · rw [if_neg c3] at H
          exact absurd H (by simp)
      · rw [if_neg c2] at H
        have c2b0 : decide (0 ≤ x3_1) = false := decide_eq_false c2
        clear c2
        obtain rfl := Option.some.inj H
        go_wp2
        go_ret
        exact ⟨by first | rfl | (simp; done) | (simp [*]; done), by repeat (first | exact Drawn0.refl _ | apply Drawn0.step)⟩

/-! ### laws_sameTexts14: function 7 -/
def laws_sameTexts14.l0 : Nat → List ByteArray → List ByteArray → Int → Int → Option (Bool)
  | 0, _, _, _, _ => none
  | k + 1, x0, x1, x12, x13 => if x13 < x12 then (if 0 ≤ x13 then (if x13 < (x0.length : Int) then (if x13 < (x1.length : Int) then (if (rdOf ByteArray.empty x0 x13).toList = (rdOf ByteArray.empty x1 x13).toList then (laws_sameTexts14.l0 k x0 x1 x12 (wrap64 (x13 + 1))) else (some false)) else (none)) else (none)) else (none)) else (some true)
def laws_sameTexts14.f (k : Nat) (l0 : List ByteArray) (l1 : List ByteArray) : Option (Bool) := if (l0.length : Int) = (l1.length : Int) then (laws_sameTexts14.l0 k l0 l1 (l0.length : Int) 0) else (some false)
theorem laws_sameTexts14.mono_l : ∀ k, (∀ y0 y1 y2 y3, LeO (laws_sameTexts14.l0 k y0 y1 y2 y3) (laws_sameTexts14.l0 (k + 1) y0 y1 y2 y3))
  | 0 => fun _ _ _ _ r h => by simp [laws_sameTexts14.l0] at h
  | k + 1 => by
    have ih0 := laws_sameTexts14.mono_l k
    · intro y0 y1 y2 y3
      unfold laws_sameTexts14.l0
      repeat' first
      | (with_reducible exact ih0 _ _ _ _)
      | (with_reducible exact LeO.refl _)
      | (with_reducible exact LeO.none _)
      | (with_reducible refine LeO.ite ?_ ?_)
      | (with_reducible refine LeO.bind ?_ (fun _ => ?_))
      | exact ih0 _ _ _ _
      | exact LeO.none _
      | refine LeO.ite ?_ ?_
      | refine LeO.bind ?_ (fun _ => ?_)
theorem laws_sameTexts14.mono : ∀ a0 a1 k, LeO (laws_sameTexts14.f k a0 a1) (laws_sameTexts14.f (k + 1) a0 a1) := by
  intro a0 a1 k
  have ih0 := laws_sameTexts14.mono_l k
  unfold laws_sameTexts14.f
  repeat' first
      | (with_reducible exact ih0 _ _ _ _)
      | (with_reducible exact LeO.refl _)
      | (with_reducible exact LeO.none _)
      | (with_reducible refine LeO.ite ?_ ?_)
      | (with_reducible refine LeO.bind ?_ (fun _ => ?_))
      | exact ih0 _ _ _ _
      | exact LeO.none _
      | refine LeO.ite ?_ ?_
      | refine LeO.bind ?_ (fun _ => ?_)
set_option maxHeartbeats 8000000 in
set_option maxRecDepth 100000 in
theorem laws_sameTexts14.calls (k : Nat) (A0 : Option Addr) (c0 : Nat) (l0 : List ByteArray) (A1 : Option Addr) (c1 : Nat) (l1 : List ByteArray) (r : Bool) (w : World) (hr0 : Kd.C Kd.string w A0 l0.length l0) (hc0 : l0.length ≤ c0) (hr1 : Kd.C Kd.string w A1 l1.length l1) (hc1 : l1.length ≤ c1) (h : laws_sameTexts14.f k l0 l1 = some r) :
    Calls Try.prog 7 #[.slice A0 l0.length c0, .slice A1 l1.length c1] w fun e w' => e = .returned (.bool r) ∧ Drawn0 w w' := by
  have HR0 := Aside0.mk hr0
  have HC0 := Aside0.mk hc0
  clear hr0 hc0
  have HR1 := Aside0.mk hr1
  have HC1 := Aside0.mk hc1
  clear hr1 hc1
  have H : (if (l0.length : Int) = (l1.length : Int) then (laws_sameTexts14.l0 k l0 l1 (l0.length : Int) 0) else (some false)) = some r := h
  clear h
  by_cases c3 : (l0.length : Int) = (l1.length : Int)
  · rw [if_pos c3] at H
    have c3b0 : ((l0.length : Int) == (l1.length : Int)) = true := beq_iff_eq.mpr c3
    have c3b1 : ((l0.length : Int) != (l1.length : Int)) = false := bne_eq_false_iff_eq.mpr c3
    have c3b2 : (l0.length == l1.length) = true := by first | simpa using c3 | (simp at c3 ⊢; omega)
    clear c3
    have H' := Aside0.mk H
    clear H
    go_enter Try.func7, Try.ntmps7
    go_wp2
    repeat (go_quiet (fail); try go_wp2)
    go_loopg [13] k (fun kq v13 w' => ∃ (x13_1 : Int), v13 = .int .i64 x13_1 ∧ Aside0 (laws_sameTexts14.l0 kq l0 l1 (l0.length : Int) x13_1 = some r) ∧ Aside0 (kq ≤ k) ∧ Drawn0 w w')
    case atStart => exact ⟨(0), (by first | rfl | (simp; done) | (simp [*]; done)), H', ⟨Nat.le_refl _⟩, by repeat (first | exact Drawn0.refl _ | apply Drawn0.step)⟩
    case round =>
      clear H'
      try clear c1
      try clear p2
      try clear c3
      try clear c3b0
      try clear c3b1
      try clear c3b2
      obtain ⟨x13_1, rfl, HA, HK1, ⟨m1, rfl⟩⟩ := hrel
      cases gk with
      | zero => exact absurd HA.out (by simp [laws_sameTexts14.l0])
      | succ k1 =>
        have H := HA.out
        clear HA
        simp only [laws_sameTexts14.l0] at H
        by_cases c4 : x13_1 < (l0.length : Int)
        · rw [if_pos c4] at H
          have c4b0 : decide (x13_1 < (l0.length : Int)) = true := decide_eq_true c4
          clear c4
          by_cases c5 : 0 ≤ x13_1
          · rw [if_pos c5] at H
            have c5b0 : decide (0 ≤ x13_1) = true := decide_eq_true c5
            clear c5
            by_cases c6 : x13_1 < (l0.length : Int)
            · rw [if_pos c6] at H
              have c6b0 : decide (x13_1 < (l0.length : Int)) = true := decide_eq_true c6
              clear c6
              by_cases c7 : x13_1 < (l1.length : Int)
              · rw [if_pos c7] at H
                have c7b0 : decide (x13_1 < (l1.length : Int)) = true := decide_eq_true c7
                clear c7
                by_cases c8 : (rdOf ByteArray.empty l0 x13_1).toList = (rdOf ByteArray.empty l1 x13_1).toList
                · rw [if_pos c8] at H
                  have c8b0 : ((rdOf ByteArray.empty l0 x13_1).toList == (rdOf ByteArray.empty l1 x13_1).toList) = true := beq_iff_eq.mpr c8
                  have c8b1 : ((rdOf ByteArray.empty l0 x13_1).toList != (rdOf ByteArray.empty l1 x13_1).toList) = false := bne_eq_false_iff_eq.mpr c8
                  clear c8
                  have H' := Aside0.mk H
                  clear H
                  have p102 : 0 ≤ (x13_1 : Int) := of_decide_eq_true (by first | (with_reducible assumption) | assumption)
                  have q102 : x13_1 < (l0.length : Int) := of_decide_eq_true (by first | (with_reducible assumption) | assumption)
                  obtain ⟨ad102, e102, hx102_0⟩ := Kd.at_string HR0.out x13_1 p102 q102
                  cases e102
                  replace p102 := eq_true p102
                  replace q102 := eq_true q102
                  have p103 : 0 ≤ (x13_1 : Int) := of_decide_eq_true (by first | (with_reducible assumption) | assumption)
                  have q103 : x13_1 < (l1.length : Int) := of_decide_eq_true (by first | (with_reducible assumption) | assumption)
                  obtain ⟨ad103, e103, hx103_0⟩ := Kd.at_string HR1.out x13_1 p103 q103
                  cases e103
                  replace p103 := eq_true p103
                  replace q103 := eq_true q103
                  go_wp2
                  repeat (go_quiet (fail); try go_wp2)
                  go_roundg k1
                  case measure => have := HK1.out; omega
                  case rel => exact ⟨(wrap64 (x13_1 + 1)), (by first | rfl | (simp; done) | (simp [*]; done)), H', ⟨by have := HK1.out; omega⟩, by repeat (first | exact Drawn0.refl _ | apply Drawn0.step)⟩
                · rw [if_neg c8] at H
                  have c8b0 : ((rdOf ByteArray.empty l0 x13_1).toList == (rdOf ByteArray.empty l1 x13_1).toList) = false := beq_eq_false_iff_ne.mpr c8
                  have c8b1 : ((rdOf ByteArray.empty l0 x13_1).toList != (rdOf ByteArray.empty l1 x13_1).toList) = true := bne_iff_ne.mpr c8
                  obtain rfl := Option.some.inj H
                  have p102 : 0 ≤ (x13_1 : Int) := of_decide_eq_true (by first | (with_reducible assumption) | assumption)
                  have q102 : x13_1 < (l0.length : Int) := of_decide_eq_true (by first | (with_reducible assumption) | assumption)
                  obtain ⟨ad102, e102, hx102_0⟩ := Kd.at_string HR0.out x13_1 p102 q102
                  cases e102
                  replace p102 := eq_true p102
                  replace q102 := eq_true q102
                  have p103 : 0 ≤ (x13_1 : Int) := of_decide_eq_true (by first | (with_reducible assumption) | assumption)
                  have q103 : x13_1 < (l1.length : Int) := of_decide_eq_true (by first | (with_reducible assumption) | assumption)
                  obtain ⟨ad103, e103, hx103_0⟩ := Kd.at_string HR1.out x13_1 p103 q103
                  cases e103
                  replace p103 := eq_true p103
                  replace q103 := eq_true q103
                  go_wp2
                  repeat (go_quiet (fail); try go_wp2)
                  go_ret
                  exact ⟨by first | rfl | (simp; done) | (simp [*]; done), by repeat (first | exact Drawn0.refl _ | apply Drawn0.step)⟩
              · rw [if_neg c7] at H
                exact absurd H (by simp)
            · rw [if_neg c6] at H
              exact absurd H (by simp)
          · rw [if_neg c5] at H
            exact absurd H (by simp)
        · rw [if_neg c4] at H
          have c4b0 : decide (x13_1 < (l0.length : Int)) = false := decide_eq_false c4
          clear c4
          obtain rfl := Option.some.inj H
          go_wp2
          repeat (go_quiet (fail); try go_wp2)
          go_ret
          exact ⟨by first | rfl | (simp; done) | (simp [*]; done), by repeat (first | exact Drawn0.refl _ | apply Drawn0.step)⟩
  · rw [if_neg c3] at H
    have c3b0 : ((l0.length : Int) == (l1.length : Int)) = false := beq_eq_false_iff_ne.mpr c3
    have c3b1 : ((l0.length : Int) != (l1.length : Int)) = true := bne_iff_ne.mpr c3
    have c3b2 : (l0.length == l1.length) = false := by first | simpa using c3 | (simp at c3 ⊢; omega)
    obtain rfl := Option.some.inj H
    go_enter Try.func7, Try.ntmps7
    go_wp2
    repeat (go_quiet (fail); try go_wp2)
    go_ret
    exact ⟨by first | rfl | (simp; done) | (simp [*]; done), by repeat (first | exact Drawn0.refl _ | apply Drawn0.step)⟩

/-! ### inner_CreatePrefixList: function 9 -/
mutual
def inner_CreatePrefixList.l0 : Nat → ByteArray → Int → Int → Option (List ByteArray)
  | 0, _, _, _ => none
  | k + 1, x0, x3, x4 => if x4 < (x0.size : Int) then (if 0 ≤ x4 then (if (bt x0 x4) = 46 then (inner_CreatePrefixList.l0 k x0 (wrap64 (x3 + 1)) (wrap64 (x4 + 1))) else (inner_CreatePrefixList.l0 k x0 x3 (wrap64 (x4 + 1)))) else (none)) else (if x3 = 0 then (some (([x0, (⟨#[]⟩ : ByteArray)] : List ByteArray))) else (if 0 ≤ (wrap64 (x3 + 2)) then (if (wrap64 (x3 + 2) : Int).toNat ≤ 17592186044416 then (inner_CreatePrefixList.l1 k x0 x3 (List.replicate (wrap64 (x3 + 2) : Int).toNat (⟨#[]⟩ : ByteArray)) 0) else (none)) else (none)))
def inner_CreatePrefixList.l1 : Nat → ByteArray → Int → List ByteArray → Int → Option (List ByteArray)
  | 0, _, _, _, _ => none
  | k + 1, x0, x3, x5, x6 => if x6 < (x0.size : Int) then (if 0 ≤ x6 then (if (bt x0 x6) = 46 then (if x6 ≤ (x0.size : Int) then (if 0 ≤ x3 then (if x3 < (x5.length : Int) then (inner_CreatePrefixList.l1 k x0 (wrap64 (x3 - 1)) (x5.set (x3 : Int).toNat (x0.extract 0 (x6 : Int).toNat)) (wrap64 (x6 + 1))) else (none)) else (none)) else (none)) else (inner_CreatePrefixList.l1 k x0 x3 x5 (wrap64 (x6 + 1)))) else (none)) else (if 0 < (x5.length : Int) then (some (x5.set (0 : Int).toNat x0)) else (none))
end
def inner_CreatePrefixList.f (k : Nat) (a0 : ByteArray) : Option (List ByteArray) := if a0.toList = ([] : List UInt8) then (some (([(⟨#[]⟩ : ByteArray)] : List ByteArray))) else (inner_CreatePrefixList.l0 k a0 0 0)
theorem inner_CreatePrefixList.mono_l : ∀ k, (∀ y0 y1 y2, LeO (inner_CreatePrefixList.l0 k y0 y1 y2) (inner_CreatePrefixList.l0 (k + 1) y0 y1 y2)) ∧ (∀ y0 y1 y2 y3, LeO (inner_CreatePrefixList.l1 k y0 y1 y2 y3) (inner_CreatePrefixList.l1 (k + 1) y0 y1 y2 y3))
  | 0 => ⟨fun _ _ _ r h => by simp [inner_CreatePrefixList.l0] at h, fun _ _ _ _ r h => by simp [inner_CreatePrefixList.l1] at h⟩
  | k + 1 => by
    obtain ⟨ih0, ih1⟩ := inner_CreatePrefixList.mono_l k
    refine ⟨?_, ?_⟩
    · intro y0 y1 y2
      unfold inner_CreatePrefixList.l0
      repeat' first
      | (with_reducible exact ih0 _ _ _)
      | (with_reducible exact ih1 _ _ _ _)
      | (with_reducible exact LeO.refl _)
      | (with_reducible exact LeO.none _)
      | (with_reducible refine LeO.ite ?_ ?_)
      | (with_reducible refine LeO.bind ?_ (fun _ => ?_))
      | exact ih0 _ _ _
      | exact ih1 _ _ _ _
      | exact LeO.none _
      | refine LeO.ite ?_ ?_
      | refine LeO.bind ?_ (fun _ => ?_)
    · intro y0 y1 y2 y3
      unfold inner_CreatePrefixList.l1
      repeat' first
      | (with_reducible exact ih0 _ _ _)
      | (with_reducible exact ih1 _ _ _ _)
      | (with_reducible exact LeO.refl _)
      | (with_reducible exact LeO.none _)
      | (with_reducible refine LeO.ite ?_ ?_)
      | (with_reducible refine LeO.bind ?_ (fun _ => ?_))
      | exact ih0 _ _ _
      | exact ih1 _ _ _ _
      | exact LeO.none _
      | refine LeO.ite ?_ ?_
      | refine LeO.bind ?_ (fun _ => ?_)
theorem inner_CreatePrefixList.mono : ∀ a0 k, LeO (inner_CreatePrefixList.f k a0) (inner_CreatePrefixList.f (k + 1) a0) := by
  intro a0 k
  obtain ⟨ih0, ih1⟩ := inner_CreatePrefixList.mono_l k
  unfold inner_CreatePrefixList.f
  repeat' first
      | (with_reducible exact ih0 _ _ _)
      | (with_reducible exact ih1 _ _ _ _)
      | (with_reducible exact LeO.refl _)
      | (with_reducible exact LeO.none _)
      | (with_reducible refine LeO.ite ?_ ?_)
      | (with_reducible refine LeO.bind ?_ (fun _ => ?_))
      | exact ih0 _ _ _
      | exact ih1 _ _ _ _
      | exact LeO.none _
      | refine LeO.ite ?_ ?_
      | refine LeO.bind ?_ (fun _ => ?_)
set_option maxHeartbeats 8000000 in
set_option maxRecDepth 100000 in
theorem inner_CreatePrefixList.calls (k : Nat) (a0 : ByteArray) (r : List ByteArray) (w : World) (h : inner_CreatePrefixList.f k a0 = some r) :
    Calls Try.prog 9 #[.string a0] w fun e w' => ∃ v0_ : Value, e = .returned (v0_) ∧ Kd.R Kd.string 9 w' w.heap.size (fun _ => True) v0_ r ∧ Below w.heap.size w w' := by
  have HB := Aside0.mk (Below.refl w.heap.size w)
  have H : (if a0.toList = ([] : List UInt8) then (some (([(⟨#[]⟩ : ByteArray)] : List ByteArray))) else (inner_CreatePrefixList.l0 k a0 0 0)) = some r := h
  clear h
  by_cases c2 : a0.toList = ([] : List UInt8)
  · rw [if_pos c2] at H
    have c2b0 : (a0.toList == ([] : List UInt8)) = true := beq_iff_eq.mpr c2
    have c2b1 : (a0.toList != ([] : List UInt8)) = false := bne_eq_false_iff_eq.mpr c2
    clear c2
    obtain ⟨y104, hy104⟩ : ∃ y_ : List ByteArray, y_ = (([(⟨#[]⟩ : ByteArray)] : List ByteArray)) := ⟨_, rfl⟩
    replace H : (some y104) = some r := by first | (rw [hy104]; with_reducible exact H) | (have H2_ := (Option.bind_some _ _).symm.trans H; rw [hy104]; with_reducible exact H2_) | (have H2_ := (Option.bind_some _ _).symm.trans H; with_reducible exact H2_) | with_reducible exact H | (rw [hy104]; exact H) | exact H
    have Ny104 := Aside0.mk hy104
    clear hy104
    obtain rfl := Option.some.inj H
    go_enter Try.func9, Try.ntmps9
    go_wp2_with (first | ((with_reducible refine gate_dst (N := 9) rfl ?_); refine Kd.R_lit Kd.string _ 9 ?hg (N := 9) ?hd (xs := ([(⟨#[]⟩ : ByteArray)] : List ByteArray)) (inner := [.string (⟨#[]⟩ : ByteArray)]) (ok := fun _ => True) (okp := fun _ => True) ?hr ?hp (fun _ hk => hk) trivial (Below.refl _ _) (Nat.le_refl _) (by simp) ?_; (case hd => rfl); (case hg => rfl); (case hr => first | (go_simp; done) | (go_simp; rfl)); (case hp => exact (Reps.one (show Kd.M Kd.string _ _ _ (⟨#[]⟩ : ByteArray) [.string (⟨#[]⟩ : ByteArray)] from rfl) (Reps.none _ _))); intro v105 w3 ho4 hb hg_ hnew_; clear hg_ hnew_; (first | rw [← Ny104.out] at ho4 | (simp only [Int.reduceToNat] at ho4; rw [← Ny104.out] at ho4)); have n0_ := Aside0.mk (Kd.R_lower ho4 (below_size (by repeat (first | (with_reducible first | exact HB.out | apply below_alloc | apply pw_below_drewN | apply below_drew1) | exact HB.out)))); have n1_ := Aside0.mk (below_step (by repeat (first | (with_reducible first | exact HB.out | apply below_alloc | apply pw_below_drewN | apply below_drew1) | exact HB.out)) hb); clear HB; have HO106 := n0_; have HB := n1_; clear n0_ n1_; clear hb ho4))
    go_ret
    exact ⟨_, by first | rfl | (simp [errW_none, errW_some] <;> rfl) | (simp [*, errW_none, errW_some] <;> rfl), by (with_reducible repeat (first | apply Kd.R_alloc | apply Kd.R_drewN | apply Kd.R_drew)); exact HO106.out, by repeat (first | (with_reducible first | exact HB.out | apply below_alloc | apply pw_below_drewN | apply below_drew1) | exact HB.out)⟩
  · rw [if_neg c2] at H
    have c2b0 : (a0.toList == ([] : List UInt8)) = false := beq_eq_false_iff_ne.mpr c2
    have c2b1 : (a0.toList != ([] : List UInt8)) = true := bne_iff_ne.mpr c2
    have H' := Aside0.mk H
    clear H
    go_enter Try.func9, Try.ntmps9
    go_wp2
    go_loopg [3, 4] k (fun kq v3 v4 w' => ∃ (x3_1 : Int) (x4_1 : Int), v3 = .int .i64 x3_1 ∧ v4 = .int .i64 x4_1 ∧ Aside0 (inner_CreatePrefixList.l0 kq a0 x3_1 x4_1 = some r) ∧ Aside0 (kq ≤ k) ∧ Aside0 (Below w.heap.size w w'))
    case atStart => exact ⟨(0), (0), (by first | rfl | (simp; done) | (simp [*]; done)), (by first | rfl | (simp; done) | (simp [*]; done)), H', ⟨Nat.le_refl _⟩, ⟨by repeat (first | (with_reducible first | exact HB.out | apply below_alloc | apply pw_below_drewN | apply below_drew1) | exact HB.out)⟩⟩
    case round =>
      clear H'
      try clear c2
      try clear c2b0
      try clear c2b1
      try clear p2
      obtain ⟨x3_1, x4_1, rfl, rfl, HA, HK1, HB⟩ := hrel
      cases gk with
      | zero => exact absurd HA.out (by simp [inner_CreatePrefixList.l0])
      | succ k1 =>
        have H := HA.out
        clear HA
        simp only [inner_CreatePrefixList.l0] at H
        by_cases c5 : x4_1 < (a0.size : Int)
        · rw [if_pos c5] at H
          have c5b0 : decide (x4_1 < (a0.size : Int)) = true := decide_eq_true c5
          clear c5
          by_cases c6 : 0 ≤ x4_1
          · rw [if_pos c6] at H
            have c6b0 : decide (0 ≤ x4_1) = true := decide_eq_true c6
            clear c6
            by_cases c8 : (bt a0 x4_1) = 46
            · rw [if_pos c8] at H
              have c8b0 : ((bt a0 x4_1) == 46) = true := beq_iff_eq.mpr c8
              have c8b1 : ((bt a0 x4_1) != 46) = false := bne_eq_false_iff_eq.mpr c8
              clear c8
              have H' := Aside0.mk H
              clear H
              have p7 : 0 ≤ (x4_1 : Int) := of_decide_eq_true (by first | (with_reducible assumption) | assumption)
              have q7 : x4_1 < (a0.size : Int) := of_decide_eq_true (by first | (with_reducible assumption) | assumption)
              have hx7 := bt_at a0 x4_1
              replace p7 := eq_true p7
              replace q7 := eq_true q7
              go_wp2
              go_roundg k1
              case measure => have := HK1.out; omega
              case rel => exact ⟨(wrap64 (x3_1 + 1)), (wrap64 (x4_1 + 1)), (by first | rfl | (simp; done) | (simp [*]; done)), (by first | rfl | (simp; done) | (simp [*]; done)), H', ⟨by have := HK1.out; omega⟩, ⟨by repeat (first | (with_reducible first | exact HB.out | apply below_alloc | apply pw_below_drewN | apply below_drew1) | exact HB.out)⟩⟩
            · rw [if_neg c8] at H
              have c8b0 : ((bt a0 x4_1) == 46) = false := beq_eq_false_iff_ne.mpr c8
              have c8b1 : ((bt a0 x4_1) != 46) = true := bne_iff_ne.mpr c8
              have H' := Aside0.mk H
              clear H
              have p7 : 0 ≤ (x4_1 : Int) := of_decide_eq_true (by first | (with_reducible assumption) | assumption)
              have q7 : x4_1 < (a0.size : Int) := of_decide_eq_true (by first | (with_reducible assumption) | assumption)
              have hx7 := bt_at a0 x4_1
              replace p7 := eq_true p7
              replace q7 := eq_true q7
              go_wp2
              go_roundg k1
              case measure => have := HK1.out; omega
              case rel => exact ⟨(x3_1), (wrap64 (x4_1 + 1)), (by first | rfl | (simp; done) | (simp [*]; done)), (by first | rfl | (simp; done) | (simp [*]; done)), H', ⟨by have := HK1.out; omega⟩, ⟨by repeat (first | (with_reducible first | exact HB.out | apply below_alloc | apply pw_below_drewN | apply below_drew1) | exact HB.out)⟩⟩
          · rw [if_neg c6] at H
            exact absurd H (by simp)
        · rw [if_neg c5] at H
          have c5b0 : decide (x4_1 < (a0.size : Int)) = false := decide_eq_false c5
          clear c5
          by_cases c9 : x3_1 = 0
          · rw [if_pos c9] at H
            have c9b0 : (x3_1 == 0) = true := beq_iff_eq.mpr c9
            have c9b1 : (x3_1 != 0) = false := bne_eq_false_iff_eq.mpr c9
            clear c9
            obtain ⟨y107, hy107⟩ : ∃ y_ : List ByteArray, y_ = (([a0, (⟨#[]⟩ : ByteArray)] : List ByteArray)) := ⟨_, rfl⟩
            replace H : (some y107) = some r := by first | (rw [hy107]; with_reducible exact H) | (have H2_ := (Option.bind_some _ _).symm.trans H; rw [hy107]; with_reducible exact H2_) | (have H2_ := (Option.bind_some _ _).symm.trans H; with_reducible exact H2_) | with_reducible exact H | (rw [hy107]; exact H) | exact H
            have Ny107 := Aside0.mk hy107
            clear hy107
            obtain rfl := Option.some.inj H
            go_wp2_with (first | ((with_reducible refine gate_dst (N := 25) rfl ?_); refine Kd.R_lit Kd.string _ 9 ?hg (N := 25) ?hd (xs := ([a0, (⟨#[]⟩ : ByteArray)] : List ByteArray)) (inner := [.string a0, .string (⟨#[]⟩ : ByteArray)]) (ok := fun _ => True) (okp := fun _ => True) ?hr ?hp (fun _ hk => hk) trivial (Below.refl _ _) (Nat.le_refl _) (by simp) ?_; (case hd => rfl); (case hg => rfl); (case hr => first | (go_simp; done) | (go_simp; rfl)); (case hp => exact (Reps.one (show Kd.M Kd.string _ _ _ a0 [.string a0] from rfl) (Reps.one (show Kd.M Kd.string _ _ _ (⟨#[]⟩ : ByteArray) [.string (⟨#[]⟩ : ByteArray)] from rfl) (Reps.none _ _)))); intro v108 w10 ho11 hb hg_ hnew_; clear hg_ hnew_; (first | rw [← Ny107.out] at ho11 | (simp only [Int.reduceToNat] at ho11; rw [← Ny107.out] at ho11)); have n0_ := Aside0.mk (Kd.R_lower ho11 (below_size (by repeat (first | (with_reducible first | exact HB.out | apply below_alloc | apply pw_below_drewN | apply below_drew1) | exact HB.out)))); have n1_ := Aside0.mk (below_step (by repeat (first | (with_reducible first | exact HB.out | apply below_alloc | apply pw_below_drewN | apply below_drew1) | exact HB.out)) hb); clear HB; have HO109 := n0_; have HB := n1_; clear n0_ n1_; clear hb ho11))
            go_ret
            exact ⟨_, by first | rfl | (simp [errW_none, errW_some] <;> rfl) | (simp [*, errW_none, errW_some] <;> rfl), by (with_reducible repeat (first | apply Kd.R_alloc | apply Kd.R_drewN | apply Kd.R_drew)); exact HO109.out, by repeat (first | (with_reducible first | exact HB.out | apply below_alloc | apply pw_below_drewN | apply below_drew1) | exact HB.out)⟩
          · rw [if_neg c9] at H
            have c9b0 : (x3_1 == 0) = false := beq_eq_false_iff_ne.mpr c9
            have c9b1 : (x3_1 != 0) = true := bne_iff_ne.mpr c9
            obtain ⟨ji12, hji12⟩ : ∃ j_ : Int, (wrap64 (x3_1 + 2)) = j_ := ⟨_, rfl⟩
            replace H : (if 0 ≤ (ji12) then (if (ji12 : Int).toNat ≤ 17592186044416 then (inner_CreatePrefixList.l1 k1 a0 x3_1 (List.replicate (ji12 : Int).toNat (⟨#[]⟩ : ByteArray)) 0) else (none)) else (none)) = some r := by first | (rw [hji12] at H; exact H) | (simp only [hji12] at H ⊢; exact H)
            have hji12w : (IntKind.i64.wrap (x3_1 + 2)) = ji12 := (i64_w _).trans hji12
            by_cases c13 : 0 ≤ (ji12)
            · rw [if_pos c13] at H
              have c13b0 := eq_true c13
              have c13b1 : decide (0 ≤ (ji12)) = true := decide_eq_true c13
              clear c13
              by_cases c14 : (ji12 : Int).toNat ≤ 17592186044416
              · rw [if_pos c14] at H
                have c14b0 := eq_true c14
                have c14b1 : decide ((ji12 : Int).toNat ≤ 17592186044416) = true := decide_eq_true c14
                clear c14
                obtain ⟨y110, hy110⟩ : ∃ y_ : List ByteArray, y_ = (List.replicate (ji12 : Int).toNat (⟨#[]⟩ : ByteArray)) := ⟨_, rfl⟩
                replace H : (inner_CreatePrefixList.l1 k1 a0 x3_1 y110 0) = some r := by first | (rw [hy110]; with_reducible exact H) | (have H2_ := (Option.bind_some _ _).symm.trans H; rw [hy110]; with_reducible exact H2_) | (have H2_ := (Option.bind_some _ _).symm.trans H; with_reducible exact H2_) | with_reducible exact H | (rw [hy110]; exact H) | exact H
                have Ny110 := Aside0.mk hy110
                clear hy110
                have H' := Aside0.mk H
                clear H
                go_wp2_with (first | ((with_reducible refine gate_dst (N := 28) rfl ?_); refine Kd.R_make Kd.string _ 9 rfl (N := 28) rfl 22 _ _ rfl ji12 rfl rfl Try.underlying22 (.string ⟨#[]⟩) 16 info9 rfl (by decide) (by omega) (⟨#[]⟩ : ByteArray) (ok := fun _ => True) (okp := fun _ => True) rfl (fun _ hk => hk) trivial (of_decide_eq_true (by first | (with_reducible assumption) | assumption)) (Nat.le_trans (Nat.mul_le_mul_right _ (of_decide_eq_true (by first | (with_reducible assumption) | assumption) : ji12.toNat ≤ 17592186044416)) (by omega)) (Below.refl _ _) (Nat.le_refl _) ?_; intro v111 w15 ho16 hb hg_ hnew_; clear hg_ hnew_; (first | rw [← Ny110.out] at ho16 | (simp only [Int.reduceToNat] at ho16; rw [← Ny110.out] at ho16)); have n0_ := Aside0.mk (Kd.R_lower ho16 (below_size (by repeat (first | (with_reducible first | exact HB.out | apply below_alloc | apply pw_below_drewN | apply below_drew1) | exact HB.out)))); have n1_ := Aside0.mk (below_step (by repeat (first | (with_reducible first | exact HB.out | apply below_alloc | apply pw_below_drewN | apply below_drew1) | exact HB.out)) hb); clear HB; have HO112 := n0_; have HB := n1_; clear n0_ n1_; clear hb ho16))
                go_loopg [3, 6] k1 (fun kq v3 v6 w' => ∃ (x3_2 : Int) (x5_2 : List ByteArray) (x6_2 : Int), v3 = .int .i64 x3_2 ∧ v6 = .int .i64 x6_2 ∧ Aside0 (inner_CreatePrefixList.l1 kq a0 x3_2 x5_2 x6_2 = some r) ∧ Aside0 (kq ≤ k1) ∧ Aside0 (Kd.R Kd.string 9 w' w.heap.size (fun _ => True) v111 x5_2) ∧ Aside0 (Below w.heap.size w w'))
                case atStart => exact ⟨(x3_1), (y110), (0), (by first | rfl | (simp; done) | (simp [*]; done)), (by first | rfl | (simp; done) | (simp [*]; done)), H', ⟨Nat.le_refl _⟩, ⟨by (with_reducible repeat (first | apply Kd.R_alloc | apply Kd.R_drewN | apply Kd.R_drew)); exact HO112.out⟩, ⟨by repeat (first | (with_reducible first | exact HB.out | apply below_alloc | apply pw_below_drewN | apply below_drew1) | exact HB.out)⟩⟩
                case round =>
                  clear H'
                  try clear c1
                  try clear c2
                  try clear c2b0
                  try clear c2b1
                  try clear p2
                  try clear c5
                  try clear c5b0
                  try clear c6
                  try clear c6b0
                  try clear p6
                  try clear p7
                  try clear q7
                  try clear hx7
                  try clear c8
                  try clear c8b0
                  try clear c8b1
                  try clear c9
                  try clear c9b0
                  try clear c9b1
                  try clear c13
                  try clear c13b0
                  try clear c13b1
                  try clear c14
                  try clear c14b0
                  try clear c14b1
                  try clear p2
                  try clear p7
                  try clear q7
                  obtain ⟨x3_2, x5_2, x6_2, rfl, rfl, HA, HK2, HO_5, HB⟩ := hrel
                  cases gk with
                  | zero => exact absurd HA.out (by simp [inner_CreatePrefixList.l1])
                  | succ k2 =>
                    have H := HA.out
                    clear HA
                    simp only [inner_CreatePrefixList.l1] at H
                    by_cases c17 : x6_2 < (a0.size : Int)
                    · rw [if_pos c17] at H
                      have c17b0 : decide (x6_2 < (a0.size : Int)) = true := decide_eq_true c17
                      clear c17
                      by_cases c18 : 0 ≤ x6_2
                      · rw [if_pos c18] at H
                        have c18b0 : decide (0 ≤ x6_2) = true := decide_eq_true c18
                        clear c18
                        by_cases c20 : (bt a0 x6_2) = 46
                        · rw [if_pos c20] at H
                          have c20b0 : ((bt a0 x6_2) == 46) = true := beq_iff_eq.mpr c20
                          have c20b1 : ((bt a0 x6_2) != 46) = false := bne_eq_false_iff_eq.mpr c20
                          clear c20
                          have c21b0 := eq_true (of_decide_eq_true (by first | (with_reducible assumption) | assumption) : 0 ≤ x6_2)
                          by_cases c22 : x6_2 ≤ (a0.size : Int)
                          · rw [if_pos c22] at H
                            have c22b0 := eq_true c22
                            have c22b1 : decide (x6_2 ≤ (a0.size : Int)) = true := decide_eq_true c22
                            clear c22
                            by_cases c23 : 0 ≤ x3_2
                            · rw [if_pos c23] at H
                              have c23b0 : decide (0 ≤ x3_2) = true := decide_eq_true c23
                              clear c23
                              by_cases c24 : x3_2 < (x5_2.length : Int)
                              · rw [if_pos c24] at H
                                have c24b0 : decide (x3_2 < (x5_2.length : Int)) = true := decide_eq_true c24
                                clear c24
                                obtain ⟨y113, hy113⟩ : ∃ y_ : List ByteArray, y_ = (x5_2.set (x3_2 : Int).toNat (a0.extract 0 (x6_2 : Int).toNat)) := ⟨_, rfl⟩
                                replace H : (inner_CreatePrefixList.l1 k2 a0 (wrap64 (x3_2 - 1)) y113 (wrap64 (x6_2 + 1))) = some r := by first | (rw [hy113]; with_reducible exact H) | (have H2_ := (Option.bind_some _ _).symm.trans H; rw [hy113]; with_reducible exact H2_) | (have H2_ := (Option.bind_some _ _).symm.trans H; with_reducible exact H2_) | with_reducible exact H | (rw [hy113]; exact H) | exact H
                                have Ny113 := Aside0.mk hy113
                                clear hy113
                                have H' := Aside0.mk H
                                clear H
                                have p19 : 0 ≤ (x6_2 : Int) := of_decide_eq_true (by first | (with_reducible assumption) | assumption)
                                have q19 : x6_2 < (a0.size : Int) := of_decide_eq_true (by first | (with_reducible assumption) | assumption)
                                have hx19 := bt_at a0 x6_2
                                replace p19 := eq_true p19
                                replace q19 := eq_true q19
                                have p25 : 0 ≤ (x3_2 : Int) := of_decide_eq_true (by first | (with_reducible assumption) | assumption)
                                have q25 : (x3_2 : Int) < ((x5_2.length : Int) : Int) := of_decide_eq_true (by first | (with_reducible assumption) | assumption)
                                obtain ⟨go25, co25, eo25, gb25, gl25, cl25, HG25⟩ := Kd.R_form HO_5.out (by omega)
                                (first | cases eo25 | (injection eo25 with ea_ en_ ec_; (first | subst ea_ | (injection ea_ with ea_; subst ea_)); subst ec_; clear en_))
                                have GB25 := Aside0.mk gb25
                                have GG25 := Aside0.mk HG25
                                clear gb25 gl25 HG25
                                obtain ⟨hx25_0, hf25_0⟩ := Kd.R_celln (⟨#[]⟩ : ByteArray) HO_5.out (x3_2 : Int) p25 q25
                                replace p25 := eq_true p25
                                replace q25 := eq_true q25
                                have HP26 := Kd.R_putg HO_5.out (x3_2 : Int) (a0.extract 0 (x6_2 : Int).toNat)
                                go_wp2_with (first | ((with_reducible refine gate_store (t := 9) (p := 44) rfl ?_); refine store_event (t := 9) (p := 44) (v := ?vo_w27) (w1 := (wr.setCell ⟨go25, (x3_2 : Int).toNat, none⟩ (.string (a0.extract 0 (x6_2 : Int).toNat)))) ?hg ?ho ?hn ?hr ?_; (case ho => rfl); (case hg => rfl); (case hn => rfl); (case hr => first | (go_simp; done) | (go_simp; rfl)); intro w27 hw; have hg : wr.grownBy w27 (some go25) := (by rw [hw]; exact HP26.2); have hp_ : Kd.R Kd.string 9 w27 w.heap.size (fun _ => True) (.slice (some ⟨go25, 0, none⟩) x5_2.length co25) y113 := (by rw [hw, Ny113.out]; exact HP26.1); clear HP26; have n0_ := Aside0.mk (hp_); have n1_ := Aside0.mk ((by rw [hw]; exact below_set (HB.out) GB25.out : Below w.heap.size w w27)); clear HO_5; clear HB; have HO_5 := n0_; have HB := n1_; clear n0_ n1_; clear hg hw hp_))
                                go_roundg k2
                                case measure => have := HK1.out; have := HK2.out; omega
                                case rel => exact ⟨(wrap64 (x3_2 - 1)), (y113), (wrap64 (x6_2 + 1)), (by first | rfl | (simp; done) | (simp [*]; done)), (by first | rfl | (simp; done) | (simp [*]; done)), H', ⟨by have := HK1.out; have := HK2.out; omega⟩, ⟨by (with_reducible repeat (first | apply Kd.R_alloc | apply Kd.R_drewN | apply Kd.R_drew)); exact HO_5.out⟩, ⟨by repeat (first | (with_reducible first | exact HB.out | apply below_alloc | apply pw_below_drewN | apply below_drew1) | exact HB.out)⟩⟩
                              · rw [if_neg c24] at H
                                exact absurd H (by simp)
                            · rw [if_neg c23] at H
                              exact absurd H (by simp)
                          · rw [if_neg c22] at H
                            exact absurd H (by simp)
                        · rw [if_neg c20] at H
                          have c20b0 : ((bt a0 x6_2) == 46) = false := beq_eq_false_iff_ne.mpr c20
                          have c20b1 : ((bt a0 x6_2) != 46) = true := bne_iff_ne.mpr c20
                          have H' := Aside0.mk H
                          clear H
                          have p19 : 0 ≤ (x6_2 : Int) := of_decide_eq_true (by first | (with_reducible assumption) | assumption)
                          have q19 : x6_2 < (a0.size : Int) := of_decide_eq_true (by first | (with_reducible assumption) | assumption)
                          have hx19 := bt_at a0 x6_2
                          replace p19 := eq_true p19
                          replace q19 := eq_true q19
                          go_wp2
                          go_roundg k2
                          case measure => have := HK1.out; have := HK2.out; omega
                          case rel => exact ⟨(x3_2), (x5_2), (wrap64 (x6_2 + 1)), (by first | rfl | (simp; done) | (simp [*]; done)), (by first | rfl | (simp; done) | (simp [*]; done)), H', ⟨by have := HK1.out; have := HK2.out; omega⟩, ⟨by (with_reducible repeat (first | apply Kd.R_alloc | apply Kd.R_drewN | apply Kd.R_drew)); exact HO_5.out⟩, ⟨by repeat (first | (with_reducible first | exact HB.out | apply below_alloc | apply pw_below_drewN | apply below_drew1) | exact HB.out)⟩⟩
                      · rw [if_neg c18] at H
                        exact absurd H (by simp)
                    · rw [if_neg c17] at H
                      have c17b0 : decide (x6_2 < (a0.size : Int)) = false := decide_eq_false c17
                      clear c17
                      by_cases c28 : 0 < (x5_2.length : Int)
                      · rw [if_pos c28] at H
                        have c28b0 : decide (0 < (x5_2.length : Int)) = true := decide_eq_true c28
                        have c28b1 : decide (0 < x5_2.length) = true := decide_eq_true (by omega)
                        clear c28
                        obtain ⟨y114, hy114⟩ : ∃ y_ : List ByteArray, y_ = (x5_2.set (0 : Int).toNat a0) := ⟨_, rfl⟩
                        replace H : (some y114) = some r := by first | (rw [hy114]; with_reducible exact H) | (have H2_ := (Option.bind_some _ _).symm.trans H; rw [hy114]; with_reducible exact H2_) | (have H2_ := (Option.bind_some _ _).symm.trans H; with_reducible exact H2_) | with_reducible exact H | (rw [hy114]; exact H) | exact H
                        have Ny114 := Aside0.mk hy114
                        clear hy114
                        obtain rfl := Option.some.inj H
                        have p29 : 0 ≤ (0 : Int) := (by omega)
                        have q29 : (0 : Int) < ((x5_2.length : Int) : Int) := of_decide_eq_true (by first | (with_reducible assumption) | assumption)
                        have qi29 : (0 < x5_2.length) = True := eq_true (by omega)
                        obtain ⟨go29, co29, eo29, gb29, gl29, cl29, HG29⟩ := Kd.R_form HO_5.out (by omega)
                        (first | cases eo29 | (injection eo29 with ea_ en_ ec_; (first | subst ea_ | (injection ea_ with ea_; subst ea_)); subst ec_; clear en_))
                        have GB29 := Aside0.mk gb29
                        have GG29 := Aside0.mk HG29
                        clear gb29 gl29 HG29
                        obtain ⟨hx29_0, hf29_0⟩ := Kd.R_celln (⟨#[]⟩ : ByteArray) HO_5.out (0 : Int) p29 q29
                        (try rw [show ((0 : Int)).toNat = 0 from rfl] at hx29_0)
                        (try simp only [Nat.reduceMul, Nat.zero_mul, Nat.zero_add, Nat.reduceAdd] at hx29_0)
                        (try rw [show ((0 : Int)).toNat = 0 from rfl] at hf29_0)
                        (try simp only [Nat.reduceMul, Nat.zero_mul, Nat.zero_add, Nat.reduceAdd] at hf29_0)
                        replace p29 := eq_true p29
                        replace q29 := eq_true q29
                        have HP30 := Kd.R_putg HO_5.out (0 : Int) a0
                        go_wp2_with (first | ((with_reducible refine gate_store (t := 9) (p := 49) rfl ?_); refine store_event (t := 9) (p := 49) (v := ?vo_w31) (w1 := (wr.setCell ⟨go29, (0 : Int).toNat, none⟩ (.string a0))) ?hg ?ho ?hn ?hr ?_; (case ho => rfl); (case hg => rfl); (case hn => rfl); (case hr => first | (go_simp; done) | (go_simp; rfl)); intro w31 hw; have hg : wr.grownBy w31 (some go29) := (by rw [hw]; exact HP30.2); have hp_ : Kd.R Kd.string 9 w31 w.heap.size (fun _ => True) (.slice (some ⟨go29, 0, none⟩) x5_2.length co29) y114 := (by rw [hw, Ny114.out]; exact HP30.1); clear HP30; have n0_ := Aside0.mk (hp_); have n1_ := Aside0.mk ((by rw [hw]; exact below_set (HB.out) GB29.out : Below w.heap.size w w31)); clear HO_5; clear HB; have HO_5 := n0_; have HB := n1_; clear n0_ n1_; clear hg hw hp_))
                        go_ret
                        exact ⟨_, by first | rfl | (simp [errW_none, errW_some] <;> rfl) | (simp only [← hji12]; first | rfl | (simp [errW_none, errW_some] <;> rfl)) | (simp [*, errW_none, errW_some] <;> rfl), by (with_reducible repeat (first | apply Kd.R_alloc | apply Kd.R_drewN | apply Kd.R_drew)); exact HO_5.out, by repeat (first | (with_reducible first | exact HB.out | apply below_alloc | apply pw_below_drewN | apply below_drew1) | exact HB.out)⟩
                      · rw [if_neg c28] at H
                        exact absurd H (by simp)
              · rw [if_neg c14] at H
                exact absurd H (by simp)
            · rw [if_neg c13] at H
              exact absurd H (by simp)

end Go.Proofs.Ytnclklfhjbkjhaa.PFnPrefixes
