-- PRINTED BY print.sh 35421559b90ae4d0a3588c463048766b98c2df88dd9212a6774a882060cdf62d: not written by this session
import Derived.Test.YtnclklfhjbkjhaaDoorPFnJsonNamex0
namespace Go.Proofs.YtnclklfhjbkjhaaDoor.PFnJsonName
open Go.RowKit Go.Proofs.YtnclklfhjbkjhaaDoorW.PrintWords Go.Proofs.YtnclklfhjbkjhaaDoorW.PrintLast Go.Proofs.YtnclklfhjbkjhaaDoorW.PrintMore
attribute [local go_sem] max2_int min2_int max_two min_two max_three min_three max_four min_four   -- for this text's walks alone
set_option linter.unusedVariables false
set_option linter.unusedSimpArgs false

/-! ### laws_plainText14: function 5 -/
def laws_plainText14.l0 : Nat → ByteArray → Int → Int → Option (Bool)
  | 0, _, _, _ => none
  | k + 1, x0, x1, x5 => if x5 < (x0.size : Int) then (if 0 ≤ x5 then (if (bt x0 x5) > 126 then (some false) else (if (bt x0 x5) < 32 then (some false) else (laws_plainText14.l0 k x0 x1 (wrap64 (x5 + 1))))) else (none)) else (if (x0.size : Int) > 0 then (some (decide ((x0.size : Int) ≤ x1))) else (some false))
def laws_plainText14.f (k : Nat) (a0 : ByteArray) (a1 : Int) : Option (Bool) := laws_plainText14.l0 k a0 a1 0
theorem laws_plainText14.mono_l : ∀ k, (∀ y0 y1 y2, LeO (laws_plainText14.l0 k y0 y1 y2) (laws_plainText14.l0 (k + 1) y0 y1 y2))
  | 0 => fun _ _ _ r h => by simp [laws_plainText14.l0] at h
  | k + 1 => by
    have ih0 := laws_plainText14.mono_l k
    · intro y0 y1 y2
      unfold laws_plainText14.l0
      repeat' first
      | (with_reducible exact ih0 _ _ _)
      | (with_reducible exact LeO.refl _)
      | (with_reducible exact LeO.none _)
      | (with_reducible refine LeO.ite ?_ ?_)
      | (with_reducible refine LeO.bind ?_ (fun _ => ?_))
      | exact ih0 _ _ _
      | exact LeO.none _
      | refine LeO.ite ?_ ?_
      | refine LeO.bind ?_ (fun _ => ?_)
theorem laws_plainText14.mono : ∀ a0 a1 k, LeO (laws_plainText14.f k a0 a1) (laws_plainText14.f (k + 1) a0 a1) := by
  intro a0 a1 k
  have ih0 := laws_plainText14.mono_l k
  unfold laws_plainText14.f
  repeat' first
      | (with_reducible exact ih0 _ _ _)
      | (with_reducible exact LeO.refl _)
      | (with_reducible exact LeO.none _)
      | (with_reducible refine LeO.ite ?_ ?_)
      | (with_reducible refine LeO.bind ?_ (fun _ => ?_))
      | exact ih0 _ _ _
      | exact LeO.none _
      | refine LeO.ite ?_ ?_
      | refine LeO.bind ?_ (fun _ => ?_)
set_option maxHeartbeats 8000000 in
set_option maxRecDepth 100000 in
theorem laws_plainText14.calls (k : Nat) (a0 : ByteArray) (a1 : Int) (r : Bool) (w : World) (h : laws_plainText14.f k a0 a1 = some r) :
    Calls Tryd.prog 5 #[.string a0, .int .i64 a1] w fun e w' => e = .returned (.bool r) ∧ Drawn0 w w' := by
  have H : (laws_plainText14.l0 k a0 a1 0) = some r := h
  clear h
  have H' := Aside0.mk H
  clear H
  go_enter Tryd.func5, Tryd.ntmps5
  go_wp2
  go_loopg [5] k (fun kq v5 w' => ∃ (x5_1 : Int), v5 = .int .i64 x5_1 ∧ Aside0 (laws_plainText14.l0 kq a0 a1 x5_1 = some r) ∧ Aside0 (kq ≤ k) ∧ Drawn0 w w')
  case atStart => exact ⟨(0), (by first | rfl | (simp; done) | (simp [*]; done)), H', ⟨Nat.le_refl _⟩, by repeat (first | exact Drawn0.refl _ | apply Drawn0.step)⟩
  case round =>
    clear H'
    try clear p2
    obtain ⟨x5_1, rfl, HA, HK1, ⟨m1, rfl⟩⟩ := hrel
    cases gk with
    | zero => exact absurd HA.out (by simp [laws_plainText14.l0])
    | succ k1 =>
      have H := HA.out
      clear HA
      simp only [laws_plainText14.l0] at H
      by_cases c3 : x5_1 < (a0.size : Int)
      · rw [if_pos c3] at H
        have c3b0 : decide (x5_1 < (a0.size : Int)) = true := decide_eq_true c3
        clear c3
        by_cases c4 : 0 ≤ x5_1
        · rw [if_pos c4] at H
          have c4b0 : decide (0 ≤ x5_1) = true := decide_eq_true c4
          clear c4
          by_cases c6 : (bt a0 x5_1) > 126
          · rw [if_pos c6] at H
            have c6b0 : decide (126 < (bt a0 x5_1)) = true := decide_eq_true c6
            clear c6
            obtain rfl := Option.some.inj H
            have p5 : 0 ≤ (x5_1 : Int) := of_decide_eq_true (by first | (with_reducible assumption) | assumption)
            have q5 : x5_1 < (a0.size : Int) := of_decide_eq_true (by first | (with_reducible assumption) | assumption)
            have hx5 := bt_at a0 x5_1
            replace p5 := eq_true p5
            replace q5 := eq_true q5
            go_wp2
            go_ret
            exact ⟨by first | rfl | (simp; done) | (simp [*]; done), by repeat (first | exact Drawn0.refl _ | apply Drawn0.step)⟩
          · rw [if_neg c6] at H
            have c6b0 : decide (126 < (bt a0 x5_1)) = false := decide_eq_false c6
            clear c6
            by_cases c8 : (bt a0 x5_1) < 32
            · rw [if_pos c8] at H
              have c8b0 : decide ((bt a0 x5_1) < 32) = true := decide_eq_true c8
              clear c8
              obtain rfl := Option.some.inj H
              have p5 : 0 ≤ (x5_1 : Int) := of_decide_eq_true (by first | (with_reducible assumption) | assumption)
              have q5 : x5_1 < (a0.size : Int) := of_decide_eq_true (by first | (with_reducible assumption) | assumption)
              have hx5 := bt_at a0 x5_1
              replace p5 := eq_true p5
              replace q5 := eq_true q5
              have p7 : 0 ≤ (x5_1 : Int) := of_decide_eq_true (by first | (with_reducible assumption) | assumption)
              have q7 : x5_1 < (a0.size : Int) := of_decide_eq_true (by first | (with_reducible assumption) | assumption)
              have hx7 := bt_at a0 x5_1
              replace p7 := eq_true p7
              replace q7 := eq_true q7
              go_wp2
              go_ret
              exact ⟨by first | rfl | (simp; done) | (simp [*]; done), by repeat (first | exact Drawn0.refl _ | apply Drawn0.step)⟩
            · rw [if_neg c8] at H
              have c8b0 : decide ((bt a0 x5_1) < 32) = false := decide_eq_false c8
              clear c8
              have H' := Aside0.mk H
              clear H
              have p5 : 0 ≤ (x5_1 : Int) := of_decide_eq_true (by first | (with_reducible assumption) | assumption)
              have q5 : x5_1 < (a0.size : Int) := of_decide_eq_true (by first | (with_reducible assumption) | assumption)
              have hx5 := bt_at a0 x5_1
              replace p5 := eq_true p5
              replace q5 := eq_true q5
              have p7 : 0 ≤ (x5_1 : Int) := of_decide_eq_true (by first | (with_reducible assumption) | assumption)
              have q7 : x5_1 < (a0.size : Int) := of_decide_eq_true (by first | (with_reducible assumption) | assumption)
              have hx7 := bt_at a0 x5_1
              replace p7 := eq_true p7
              replace q7 := eq_true q7
              go_wp2
              go_roundg k1
              case measure => have := HK1.out; omega
              case rel => exact ⟨(wrap64 (x5_1 + 1)), (by first | rfl | (simp; done) | (simp [*]; done)), H', ⟨by have := HK1.out; omega⟩, by repeat (first | exact Drawn0.refl _ | apply Drawn0.step)⟩
        · rw [if_neg c4] at H
          exact absurd H (by simp)
      · rw [if_neg c3] at H
        have c3b0 : decide (x5_1 < (a0.size : Int)) = false := decide_eq_false c3
        clear c3
        by_cases c9 : (a0.size : Int) > 0
        · rw [if_pos c9] at H
          have c9b0 : decide (0 < (a0.size : Int)) = true := decide_eq_true c9
          have c9b1 : decide (0 < a0.size) = true := decide_eq_true (by omega)
          clear c9
          obtain rfl := Option.some.inj H
          go_wp2
          go_ret
          exact ⟨by first | rfl | (simp; done) | (simp [*]; done), by repeat (first | exact Drawn0.refl _ | apply Drawn0.step)⟩
        · rw [if_neg c9] at H
          have c9b0 : decide (0 < (a0.size : Int)) = false := decide_eq_false c9
          have c9b1 : decide (0 < a0.size) = false := decide_eq_false (by omega)
          clear c9
          obtain rfl := Option.some.inj H
          go_wp2
          go_ret
          exact ⟨by first | rfl | (simp; done) | (simp [*]; done), by repeat (first | exact Drawn0.refl _ | apply Drawn0.step)⟩

-- NOT PRINTED: function 17 (unicode_lookupCaseRange)

-- NOT PRINTED: function 18 (unicode_convertCase)

-- NOT PRINTED: function 16 (unicode_to)

-- NOT PRINTED: function 14 (unicode_To)

-- NOT PRINTED: function 12 (unicode_ToUpper)

-- NOT PRINTED: function 10 (inner_JSONName)

-- NOT PRINTED: function 6 (impl_JsonName)

/-! ### spec_Json: function 7 -/
def spec_Json.l0 : Nat → ByteArray → ByteArray → Bool → Int → Option (ByteArray)
  | 0, _, _, _, _ => none
  | k + 1, x0, x3, x4, x5 => if x5 < (x0.size : Int) then (if 0 ≤ x5 then (if (bt x0 x5) = 95 then (spec_Json.l0 k x0 x3 true (wrap64 (x5 + 1))) else (if x4 = true then (if (bt x0 x5) ≥ 97 then (if (bt x0 x5) ≤ 122 then ((some (([((bt x0 x5) - 32) % 256] : List Int) : List Int)).bind fun y101 => (if x3.size + (strOfNums y101).size ≤ 9223372036854775807 then (spec_Json.l0 k x0 (x3 ++ (strOfNums y101)) false (wrap64 (x5 + 1))) else (none))) else ((some (([bt x0 x5] : List Int) : List Int)).bind fun y104 => (if x3.size + (strOfNums y104).size ≤ 9223372036854775807 then (spec_Json.l0 k x0 (x3 ++ (strOfNums y104)) false (wrap64 (x5 + 1))) else (none)))) else ((some (([bt x0 x5] : List Int) : List Int)).bind fun y107 => (if x3.size + (strOfNums y107).size ≤ 9223372036854775807 then (spec_Json.l0 k x0 (x3 ++ (strOfNums y107)) false (wrap64 (x5 + 1))) else (none)))) else ((some (([bt x0 x5] : List Int) : List Int)).bind fun y110 => (if x3.size + (strOfNums y110).size ≤ 9223372036854775807 then (spec_Json.l0 k x0 (x3 ++ (strOfNums y110)) false (wrap64 (x5 + 1))) else (none))))) else (none)) else (some x3)
def spec_Json.f (k : Nat) (a0 : ByteArray) : Option (ByteArray) := spec_Json.l0 k a0 (⟨#[]⟩ : ByteArray) false 0
theorem spec_Json.mono_l : ∀ k, (∀ y0 y1 y2 y3, LeO (spec_Json.l0 k y0 y1 y2 y3) (spec_Json.l0 (k + 1) y0 y1 y2 y3))
  | 0 => fun _ _ _ _ r h => by simp [spec_Json.l0] at h
  | k + 1 => by
    have ih0 := spec_Json.mono_l k
    · intro y0 y1 y2 y3
      unfold spec_Json.l0
      repeat' first
      | (with_reducible exact ih0 _ _ _ _)
      | (with_reducible exact LeO.refl _)
      | (with_reducible exact LeO.none _)
      | (with_reducible refine LeO.ite ?_ ?_)
      | (with_reducible refine LeO.bind ?_ (fun _ => ?_))
      | exact ih0 _ _ _ _
      | exact LeO.none _
      | refine LeO.ite ?_ ?_
      | refine LeO.bind ?_ (fun _ => ?_)
theorem spec_Json.mono : ∀ a0 k, LeO (spec_Json.f k a0) (spec_Json.f (k + 1) a0) := by
  intro a0 k
  have ih0 := spec_Json.mono_l k
  unfold spec_Json.f
  repeat' first
      | (with_reducible exact ih0 _ _ _ _)
      | (with_reducible exact LeO.refl _)
      | (with_reducible exact LeO.none _)
      | (with_reducible refine LeO.ite ?_ ?_)
      | (with_reducible refine LeO.bind ?_ (fun _ => ?_))
      | exact ih0 _ _ _ _
      | exact LeO.none _
      | refine LeO.ite ?_ ?_
      | refine LeO.bind ?_ (fun _ => ?_)
set_option maxHeartbeats 8000000 in
set_option maxRecDepth 100000 in
theorem spec_Json.calls (k : Nat) (a0 : ByteArray) (r : ByteArray) (w : World) (h : spec_Json.f k a0 = some r) :
    Calls Tryd.prog 7 #[.string a0] w fun e w' => e = .returned (.string r) ∧ Below w.heap.size w w' := by
  have HB := Aside0.mk (Below.refl w.heap.size w)
  have H : (spec_Json.l0 k a0 (⟨#[]⟩ : ByteArray) false 0) = some r := h
  clear h
  have H' := Aside0.mk H
  clear H
  go_enter Tryd.func7, Tryd.ntmps7
  go_wp2
  go_loopg [3, 4, 5] k (fun kq v3 v4 v5 w' => ∃ (x3_1 : ByteArray) (x4_1 : Bool) (x5_1 : Int), v3 = .string x3_1 ∧ v4 = .bool x4_1 ∧ v5 = .int .i64 x5_1 ∧ Aside0 (spec_Json.l0 kq a0 x3_1 x4_1 x5_1 = some r) ∧ Aside0 (kq ≤ k) ∧ Aside0 (Below w.heap.size w w'))
  case atStart => exact ⟨((⟨#[]⟩ : ByteArray)), (false), (0), (by first | rfl | (simp; done) | (simp [*]; done)), (by first | rfl | (simp; done) | (simp [*]; done)), (by first | rfl | (simp; done) | (simp [*]; done)), H', ⟨Nat.le_refl _⟩, ⟨by repeat (first | (with_reducible first | exact HB.out | apply below_alloc | apply pw_below_drewN | apply below_drew1) | exact HB.out)⟩⟩
  case round =>
    clear H'
    obtain ⟨x3_1, x4_1, x5_1, rfl, rfl, rfl, HA, HK1, HB⟩ := hrel
    cases gk with
    | zero => exact absurd HA.out (by simp [spec_Json.l0])
    | succ k1 =>
      have H := HA.out
      clear HA
      simp only [spec_Json.l0] at H
      by_cases c2 : x5_1 < (a0.size : Int)
      · rw [if_pos c2] at H
        have c2b0 : decide (x5_1 < (a0.size : Int)) = true := decide_eq_true c2
        clear c2
        by_cases c3 : 0 ≤ x5_1
        · rw [if_pos c3] at H
          have c3b0 : decide (0 ≤ x5_1) = true := decide_eq_true c3
          clear c3
          by_cases c5 : (bt a0 x5_1) = 95
          · rw [if_pos c5] at H
            have c5b0 : ((bt a0 x5_1) == 95) = true := beq_iff_eq.mpr c5
            have c5b1 : ((bt a0 x5_1) != 95) = false := bne_eq_false_iff_eq.mpr c5
            clear c5
            have H' := Aside0.mk H
            clear H
            have p4 : 0 ≤ (x5_1 : Int) := of_decide_eq_true (by first | (with_reducible assumption) | assumption)
            have q4 : x5_1 < (a0.size : Int) := of_decide_eq_true (by first | (with_reducible assumption) | assumption)
            have hx4 := bt_at a0 x5_1
            replace p4 := eq_true p4
            replace q4 := eq_true q4
            go_wp2
            go_roundg k1
            case measure => have := HK1.out; omega
            case rel => exact ⟨(x3_1), (true), (wrap64 (x5_1 + 1)), (by first | rfl | (simp; done) | (simp [*]; done)), (by first | rfl | (simp; done) | (simp [*]; done)), (by first | rfl | (simp; done) | (simp [*]; done)), H', ⟨by have := HK1.out; omega⟩, ⟨by repeat (first | (with_reducible first | exact HB.out | apply below_alloc | apply pw_below_drewN | apply below_drew1) | exact HB.out)⟩⟩
          · rw [if_neg c5] at H
            have c5b0 : ((bt a0 x5_1) == 95) = false := beq_eq_false_iff_ne.mpr c5
            have c5b1 : ((bt a0 x5_1) != 95) = true := bne_iff_ne.mpr c5
            by_cases c6 : x4_1 = true
            · subst c6
              have H1 : (if (bt a0 x5_1) ≥ 97 then (if (bt a0 x5_1) ≤ 122 then ((some (([((bt a0 x5_1) - 32) % 256] : List Int) : List Int)).bind fun y101 => (if x3_1.size + (strOfNums y101).size ≤ 9223372036854775807 then (spec_Json.l0 k1 a0 (x3_1 ++ (strOfNums y101)) false (wrap64 (x5_1 + 1))) else (none))) else ((some (([bt a0 x5_1] : List Int) : List Int)).bind fun y104 => (if x3_1.size + (strOfNums y104).size ≤ 9223372036854775807 then (spec_Json.l0 k1 a0 (x3_1 ++ (strOfNums y104)) false (wrap64 (x5_1 + 1))) else (none)))) else ((some (([bt a0 x5_1] : List Int) : List Int)).bind fun y107 => (if x3_1.size + (strOfNums y107).size ≤ 9223372036854775807 then (spec_Json.l0 k1 a0 (x3_1 ++ (strOfNums y107)) false (wrap64 (x5_1 + 1))) else (none)))) = some r := by rw [if_pos rfl] at H; exact H
              clear H
              have H := H1
              clear H1
              by_cases c7 : (bt a0 x5_1) ≥ 97
              · rw [if_pos c7] at H
                have c7b0 : decide (97 ≤ (bt a0 x5_1)) = true := decide_eq_true c7
                clear c7
                by_cases c8 : (bt a0 x5_1) ≤ 122
                · rw [if_pos c8] at H
                  have c8b0 : decide ((bt a0 x5_1) ≤ 122) = true := decide_eq_true c8
                  clear c8
                  obtain ⟨y101, hy101⟩ : ∃ y_ : List Int, y_ = (([((bt a0 x5_1) - 32) % 256] : List Int)) := ⟨_, rfl⟩
                  replace H : (if x3_1.size + (strOfNums y101).size ≤ 9223372036854775807 then (spec_Json.l0 k1 a0 (x3_1 ++ (strOfNums y101)) false (wrap64 (x5_1 + 1))) else (none)) = some r := by first | (rw [hy101]; with_reducible exact H) | (have H2_ := (Option.bind_some _ _).symm.trans H; rw [hy101]; with_reducible exact H2_) | (have H2_ := (Option.bind_some _ _).symm.trans H; with_reducible exact H2_) | with_reducible exact H | (rw [hy101]; exact H) | exact H
                  have Ny101 := Aside0.mk hy101
                  clear hy101
                  by_cases c9 : x3_1.size + (strOfNums y101).size ≤ 9223372036854775807
                  · rw [if_pos c9] at H
                    have c9b0 := eq_true c9
                    have c9b1 : decide (x3_1.size + (strOfNums y101).size ≤ 9223372036854775807) = true := decide_eq_true c9
                    try have c9b2 : (9223372036854775807 < x3_1.size + (strOfNums y101).size) = False := eq_false (Nat.not_lt.2 c9)
                    have H' := Aside0.mk H
                    clear H
                    have p4 : 0 ≤ (x5_1 : Int) := of_decide_eq_true (by first | (with_reducible assumption) | assumption)
                    have q4 : x5_1 < (a0.size : Int) := of_decide_eq_true (by first | (with_reducible assumption) | assumption)
                    have hx4 := bt_at a0 x5_1
                    replace p4 := eq_true p4
                    replace q4 := eq_true q4
                    go_wp2_with (first | ((with_reducible refine gate_dst (N := 31) rfl ?_); refine Kd.R_lit (Kd.int .u8) _ 5 ?hg (N := 31) ?hd (xs := ([((bt a0 x5_1) - 32) % 256] : List Int)) (inner := [.int .u8 (((bt a0 x5_1) - 32) % 256)]) (ok := fun _ => True) (okp := fun _ => True) ?hr ?hp (fun _ hk => hk) trivial (Below.refl _ _) (Nat.le_refl _) (by simp) ?_; (case hd => rfl); (case hg => rfl); (case hr => first | (go_simp; done) | (go_simp; rfl)); (case hp => exact (Reps.one (show Kd.M (Kd.int .u8) _ _ _ (((bt a0 x5_1) - 32) % 256) [.int .u8 (((bt a0 x5_1) - 32) % 256)] from rfl) (Reps.none _ _))); intro v102 w10 ho11 hb hg_ hnew_; clear hg_ hnew_; (first | rw [← Ny101.out] at ho11 | (simp only [Int.reduceToNat] at ho11; rw [← Ny101.out] at ho11)); have n0_ := Aside0.mk (Kd.R_lower ho11 (below_size (by repeat (first | (with_reducible first | exact HB.out | apply below_alloc | apply pw_below_drewN | apply below_drew1) | exact HB.out)))); have n1_ := Aside0.mk (below_step (by repeat (first | (with_reducible first | exact HB.out | apply below_alloc | apply pw_below_drewN | apply below_drew1) | exact HB.out)) hb); clear HB; have HO103 := n0_; have HB := n1_; clear n0_ n1_; clear hb ho11; have hcv12 := own_string (P := Tryd.prog) Tryd.underlying25 Tryd.underlying5 Tryd.underlying9 (Kd.own_of_R HO103.out)))
                    go_roundg k1
                    case measure => have := HK1.out; omega
                    case rel => exact ⟨(x3_1 ++ (strOfNums y101)), (false), (wrap64 (x5_1 + 1)), (by first | rfl | (simp; done) | (simp [*]; done)), (by first | rfl | (simp; done) | (simp [*]; done)), (by first | rfl | (simp; done) | (simp [*]; done)), H', ⟨by have := HK1.out; omega⟩, ⟨by repeat (first | (with_reducible first | exact HB.out | apply below_alloc | apply pw_below_drewN | apply below_drew1) | exact HB.out)⟩⟩
                  · rw [if_neg c9] at H
                    exact absurd H (by simp)
                · rw [if_neg c8] at H
                  have c8b0 : decide ((bt a0 x5_1) ≤ 122) = false := decide_eq_false c8
                  clear c8
                  obtain ⟨y104, hy104⟩ : ∃ y_ : List Int, y_ = (([bt a0 x5_1] : List Int)) := ⟨_, rfl⟩
                  replace H : (if x3_1.size + (strOfNums y104).size ≤ 9223372036854775807 then (spec_Json.l0 k1 a0 (x3_1 ++ (strOfNums y104)) false (wrap64 (x5_1 + 1))) else (none)) = some r := by first | (rw [hy104]; with_reducible exact H) | (have H2_ := (Option.bind_some _ _).symm.trans H; rw [hy104]; with_reducible exact H2_) | (have H2_ := (Option.bind_some _ _).symm.trans H; with_reducible exact H2_) | with_reducible exact H | (rw [hy104]; exact H) | exact H
                  have Ny104 := Aside0.mk hy104
                  clear hy104
                  by_cases c13 : x3_1.size + (strOfNums y104).size ≤ 9223372036854775807
                  · rw [if_pos c13] at H
                    have c13b0 := eq_true c13
                    have c13b1 : decide (x3_1.size + (strOfNums y104).size ≤ 9223372036854775807) = true := decide_eq_true c13
                    try have c13b2 : (9223372036854775807 < x3_1.size + (strOfNums y104).size) = False := eq_false (Nat.not_lt.2 c13)
                    have H' := Aside0.mk H
                    clear H
                    have p4 : 0 ≤ (x5_1 : Int) := of_decide_eq_true (by first | (with_reducible assumption) | assumption)
                    have q4 : x5_1 < (a0.size : Int) := of_decide_eq_true (by first | (with_reducible assumption) | assumption)
                    have hx4 := bt_at a0 x5_1
                    replace p4 := eq_true p4
                    replace q4 := eq_true q4
                    go_wp2_with (first | ((with_reducible refine gate_dst (N := 31) rfl ?_); refine Kd.R_lit (Kd.int .u8) _ 5 ?hg (N := 31) ?hd (xs := ([bt a0 x5_1] : List Int)) (inner := [.int .u8 (bt a0 x5_1)]) (ok := fun _ => True) (okp := fun _ => True) ?hr ?hp (fun _ hk => hk) trivial (Below.refl _ _) (Nat.le_refl _) (by simp) ?_; (case hd => rfl); (case hg => rfl); (case hr => first | (go_simp; done) | (go_simp; rfl)); (case hp => exact (Reps.one (show Kd.M (Kd.int .u8) _ _ _ (bt a0 x5_1) [.int .u8 (bt a0 x5_1)] from rfl) (Reps.none _ _))); intro v105 w14 ho15 hb hg_ hnew_; clear hg_ hnew_; (first | rw [← Ny104.out] at ho15 | (simp only [Int.reduceToNat] at ho15; rw [← Ny104.out] at ho15)); have n0_ := Aside0.mk (Kd.R_lower ho15 (below_size (by repeat (first | (with_reducible first | exact HB.out | apply below_alloc | apply pw_below_drewN | apply below_drew1) | exact HB.out)))); have n1_ := Aside0.mk (below_step (by repeat (first | (with_reducible first | exact HB.out | apply below_alloc | apply pw_below_drewN | apply below_drew1) | exact HB.out)) hb); clear HB; have HO106 := n0_; have HB := n1_; clear n0_ n1_; clear hb ho15; have hcv16 := own_string (P := Tryd.prog) Tryd.underlying25 Tryd.underlying5 Tryd.underlying9 (Kd.own_of_R HO106.out)))
                    go_roundg k1
                    case measure => have := HK1.out; omega
                    case rel => exact ⟨(x3_1 ++ (strOfNums y104)), (false), (wrap64 (x5_1 + 1)), (by first | rfl | (simp; done) | (simp [*]; done)), (by first | rfl | (simp; done) | (simp [*]; done)), (by first | rfl | (simp; done) | (simp [*]; done)), H', ⟨by have := HK1.out; omega⟩, ⟨by repeat (first | (with_reducible first | exact HB.out | apply below_alloc | apply pw_below_drewN | apply below_drew1) | exact HB.out)⟩⟩
                  · rw [if_neg c13] at H
                    exact absurd H (by simp)
              · rw [if_neg c7] at H
                have c7b0 : decide (97 ≤ (bt a0 x5_1)) = false := decide_eq_false c7
                clear c7
                obtain ⟨y107, hy107⟩ : ∃ y_ : List Int, y_ = (([bt a0 x5_1] : List Int)) := ⟨_, rfl⟩
                replace H : (if x3_1.size + (strOfNums y107).size ≤ 9223372036854775807 then (spec_Json.l0 k1 a0 (x3_1 ++ (strOfNums y107)) false (wrap64 (x5_1 + 1))) else (none)) = some r := by first | (rw [hy107]; with_reducible exact H) | (have H2_ := (Option.bind_some _ _).symm.trans H; rw [hy107]; with_reducible exact H2_) | (have H2_ := (Option.bind_some _ _).symm.trans H; with_reducible exact H2_) | with_reducible exact H | (rw [hy107]; exact H) | exact H
                have Ny107 := Aside0.mk hy107
                clear hy107
                by_cases c17 : x3_1.size + (strOfNums y107).size ≤ 9223372036854775807
                · rw [if_pos c17] at H
                  have c17b0 := eq_true c17
                  have c17b1 : decide (x3_1.size + (strOfNums y107).size ≤ 9223372036854775807) = true := decide_eq_true c17
                  try have c17b2 : (9223372036854775807 < x3_1.size + (strOfNums y107).size) = False := eq_false (Nat.not_lt.2 c17)
                  have H' := Aside0.mk H
                  clear H
                  have p4 : 0 ≤ (x5_1 : Int) := of_decide_eq_true (by first | (with_reducible assumption) | assumption)
                  have q4 : x5_1 < (a0.size : Int) := of_decide_eq_true (by first | (with_reducible assumption) | assumption)
                  have hx4 := bt_at a0 x5_1
                  replace p4 := eq_true p4
                  replace q4 := eq_true q4
                  go_wp2_with (first | ((with_reducible refine gate_dst (N := 31) rfl ?_); refine Kd.R_lit (Kd.int .u8) _ 5 ?hg (N := 31) ?hd (xs := ([bt a0 x5_1] : List Int)) (inner := [.int .u8 (bt a0 x5_1)]) (ok := fun _ => True) (okp := fun _ => True) ?hr ?hp (fun _ hk => hk) trivial (Below.refl _ _) (Nat.le_refl _) (by simp) ?_; (case hd => rfl); (case hg => rfl); (case hr => first | (go_simp; done) | (go_simp; rfl)); (case hp => exact (Reps.one (show Kd.M (Kd.int .u8) _ _ _ (bt a0 x5_1) [.int .u8 (bt a0 x5_1)] from rfl) (Reps.none _ _))); intro v108 w18 ho19 hb hg_ hnew_; clear hg_ hnew_; (first | rw [← Ny107.out] at ho19 | (simp only [Int.reduceToNat] at ho19; rw [← Ny107.out] at ho19)); have n0_ := Aside0.mk (Kd.R_lower ho19 (below_size (by repeat (first | (with_reducible first | exact HB.out | apply below_alloc | apply pw_below_drewN | apply below_drew1) | exact HB.out)))); have n1_ := Aside0.mk (below_step (by repeat (first | (with_reducible first | exact HB.out | apply below_alloc | apply pw_below_drewN | apply below_drew1) | exact HB.out)) hb); clear HB; have HO109 := n0_; have HB := n1_; clear n0_ n1_; clear hb ho19; have hcv20 := own_string (P := Tryd.prog) Tryd.underlying25 Tryd.underlying5 Tryd.underlying9 (Kd.own_of_R HO109.out)))
                  go_roundg k1
                  case measure => have := HK1.out; omega
                  case rel => exact ⟨(x3_1 ++ (strOfNums y107)), (false), (wrap64 (x5_1 + 1)), (by first | rfl | (simp; done) | (simp [*]; done)), (by first | rfl | (simp; done) | (simp [*]; done)), (by first | rfl | (simp; done) | (simp [*]; done)), H', ⟨by have := HK1.out; omega⟩, ⟨by repeat (first | (with_reducible first | exact HB.out | apply below_alloc | apply pw_below_drewN | apply below_drew1) | exact HB.out)⟩⟩
                · rw [if_neg c17] at H
                  exact absurd H (by simp)
            · replace c6 := Bool.eq_false_iff.mpr c6
              subst c6
              have H1 : ((some (([bt a0 x5_1] : List Int) : List Int)).bind fun y110 => (if x3_1.size + (strOfNums y110).size ≤ 9223372036854775807 then (spec_Json.l0 k1 a0 (x3_1 ++ (strOfNums y110)) false (wrap64 (x5_1 + 1))) else (none))) = some r := by rw [if_neg (show ¬ (false = true) by decide)] at H; exact H
              clear H
              have H := H1
              clear H1
              obtain ⟨y110, hy110⟩ : ∃ y_ : List Int, y_ = (([bt a0 x5_1] : List Int)) := ⟨_, rfl⟩
              replace H : (if x3_1.size + (strOfNums y110).size ≤ 9223372036854775807 then (spec_Json.l0 k1 a0 (x3_1 ++ (strOfNums y110)) false (wrap64 (x5_1 + 1))) else (none)) = some r := by first | (rw [hy110]; with_reducible exact H) | (have H2_ := (Option.bind_some _ _).symm.trans H; rw [hy110]; with_reducible exact H2_) | (have H2_ := (Option.bind_some _ _).symm.trans H; with_reducible exact H2_) | with_reducible exact H | (rw [hy110]; exact H) | exact H
              have Ny110 := Aside0.mk hy110
              clear hy110
              by_cases c21 : x3_1.size + (strOfNums y110).size ≤ 9223372036854775807
              · rw [if_pos c21] at H
                have c21b0 := eq_true c21
                have c21b1 : decide (x3_1.size + (strOfNums y110).size ≤ 9223372036854775807) = true := decide_eq_true c21
                try have c21b2 : (9223372036854775807 < x3_1.size + (strOfNums y110).size) = False := eq_false (Nat.not_lt.2 c21)
                have H' := Aside0.mk H
                clear H
                have p4 : 0 ≤ (x5_1 : Int) := of_decide_eq_true (by first | (with_reducible assumption) | assumption)
                have q4 : x5_1 < (a0.size : Int) := of_decide_eq_true (by first | (with_reducible assumption) | assumption)
                have hx4 := bt_at a0 x5_1
                replace p4 := eq_true p4
                replace q4 := eq_true q4
                go_wp2_with (first | ((with_reducible refine gate_dst (N := 31) rfl ?_); refine Kd.R_lit (Kd.int .u8) _ 5 ?hg (N := 31) ?hd (xs := ([bt a0 x5_1] : List Int)) (inner := [.int .u8 (bt a0 x5_1)]) (ok := fun _ => True) (okp := fun _ => True) ?hr ?hp (fun _ hk => hk) trivial (Below.refl _ _) (Nat.le_refl _) (by simp) ?_; (case hd => rfl); (case hg => rfl); (case hr => first | (go_simp; done) | (go_simp; rfl)); (case hp => exact (Reps.one (show Kd.M (Kd.int .u8) _ _ _ (bt a0 x5_1) [.int .u8 (bt a0 x5_1)] from rfl) (Reps.none _ _))); intro v111 w22 ho23 hb hg_ hnew_; clear hg_ hnew_; (first | rw [← Ny110.out] at ho23 | (simp only [Int.reduceToNat] at ho23; rw [← Ny110.out] at ho23)); have n0_ := Aside0.mk (Kd.R_lower ho23 (below_size (by repeat (first | (with_reducible first | exact HB.out | apply below_alloc | apply pw_below_drewN | apply below_drew1) | exact HB.out)))); have n1_ := Aside0.mk (below_step (by repeat (first | (with_reducible first | exact HB.out | apply below_alloc | apply pw_below_drewN | apply below_drew1) | exact HB.out)) hb); clear HB; have HO112 := n0_; have HB := n1_; clear n0_ n1_; clear hb ho23; have hcv24 := own_string (P := Tryd.prog) Tryd.underlying25 Tryd.underlying5 Tryd.underlying9 (Kd.own_of_R HO112.out)))
                go_roundg k1
                case measure => have := HK1.out; omega
                case rel => exact ⟨(x3_1 ++ (strOfNums y110)), (false), (wrap64 (x5_1 + 1)), (by first | rfl | (simp; done) | (simp [*]; done)), (by first | rfl | (simp; done) | (simp [*]; done)), (by first | rfl | (simp; done) | (simp [*]; done)), H', ⟨by have := HK1.out; omega⟩, ⟨by repeat (first | (with_reducible first | exact HB.out | apply below_alloc | apply pw_below_drewN | apply below_drew1) | exact HB.out)⟩⟩
              · rw [if_neg c21] at H
                exact absurd H (by simp)
        · rw [if_neg c3] at H
          exact absurd H (by simp)
      · rw [if_neg c2] at H
        have c2b0 : decide (x5_1 < (a0.size : Int)) = false := decide_eq_false c2
        clear c2
        obtain rfl := Option.some.inj H
        go_wp2
        go_ret
        exact ⟨by first | rfl | (simp [errW_none, errW_some] <;> rfl) | (simp [*, errW_none, errW_some] <;> rfl), by repeat (first | (with_reducible first | exact HB.out | apply below_alloc | apply pw_below_drewN | apply below_drew1) | exact HB.out)⟩

-- NOT PRINTED: function 3 (laws_FnJsonName)

end Go.Proofs.YtnclklfhjbkjhaaDoor.PFnJsonName
