-- PRINTED BY print.sh 35421559b90ae4d0a3588c463048766b98c2df88dd9212a6774a882060cdf62d: not written by this session
import Derived.Test.YtnclklfhjbkjhaaPFnPrefixesx0
import Derived.Test.YtnclklfhjbkjhaaPFnPrefixesx1
namespace Go.Proofs.Ytnclklfhjbkjhaa.PFnPrefixes
open Go.RowKit Go.Proofs.YtnclklfhjbkjhaaW.PrintWords Go.Proofs.YtnclklfhjbkjhaaW.PrintLast Go.Proofs.YtnclklfhjbkjhaaW.PrintMore
attribute [local go_sem] max2_int min2_int max_two min_two max_three min_three max_four min_four   -- for this text's walks alone
set_option linter.unusedVariables false
set_option linter.unusedSimpArgs false

/-! ### impl_Prefixes: function 8 -/
def impl_Prefixes.f (k : Nat) (a0 : ByteArray) : Option (List ByteArray) := (inner_CreatePrefixList.f k a0).bind fun t115 => (some t115)
theorem impl_Prefixes.mono : ∀ a0 k, LeO (impl_Prefixes.f k a0) (impl_Prefixes.f (k + 1) a0) := by
  intro a0 k
  unfold impl_Prefixes.f
  repeat' first
      | (with_reducible exact inner_CreatePrefixList.mono _ _)
      | (with_reducible exact LeO.refl _)
      | (with_reducible exact LeO.none _)
      | (with_reducible refine LeO.ite ?_ ?_)
      | (with_reducible refine LeO.bind ?_ (fun _ => ?_))
      | exact inner_CreatePrefixList.mono _ _
      | exact LeO.none _
      | refine LeO.ite ?_ ?_
      | refine LeO.bind ?_ (fun _ => ?_)
set_option maxHeartbeats 8000000 in
set_option maxRecDepth 100000 in
theorem impl_Prefixes.calls (k : Nat) (a0 : ByteArray) (r : List ByteArray) (w : World) (h : impl_Prefixes.f k a0 = some r) :
    Calls Try.prog 8 #[.string a0] w fun e w' => ∃ v0_ : Value, e = .returned (v0_) ∧ Kd.R Kd.string 9 w' w.heap.size (fun _ => True) v0_ r ∧ Below w.heap.size w w' := by
  have HB := Aside0.mk (Below.refl w.heap.size w)
  have H : ((inner_CreatePrefixList.f k a0).bind fun t115 => (some t115)) = some r := h
  clear h
  replace H := Option.bind_eq_some_iff.mp H
  obtain ⟨t115, A20, H⟩ := H
  replace H : (some t115) = some r := H
  have A2 := Aside0.mk A20
  clear A20
  obtain rfl := Option.some.inj H
  go_enter Try.func8, Try.ntmps8
  go_wp2_with (first | ((with_reducible refine gate_callee (f := 9) rfl ?_); refine goesL_ (some 4) rfl rfl Try.func9 (by kernel_rfl) rfl #[.string a0] rfl (by (try simp only [List.map_toArray, List.map_cons, List.map_nil]); first | done | rfl | (simp only [List.length_drop, List.length_take]; rfl)) ?_; (with_reducible refine (inner_CreatePrefixList.calls k a0 t115 _ A2.out).mono ?_); rintro e w3 ⟨v116, rfl, ho0, hb⟩; refine ⟨_, rfl, ?_⟩; have n0_ := Aside0.mk (Kd.R_lower ho0 (below_size (by repeat (first | (with_reducible first | exact HB.out | apply below_alloc | apply pw_below_drewN | apply below_drew1) | exact HB.out)))); have n1_ := Aside0.mk (below_step (by repeat (first | (with_reducible first | exact HB.out | apply below_alloc | apply pw_below_drewN | apply below_drew1) | exact HB.out)) hb); clear HB; have HO117 := n0_; have HB := n1_; clear n0_ n1_; (try clear hb); (try clear hb2); (try clear hk); (try clear hi); (try clear ho0)))
  go_ret
  exact ⟨_, by first | rfl | (simp [errW_none, errW_some] <;> rfl) | (simp [*, errW_none, errW_some] <;> rfl), by (with_reducible repeat (first | apply Kd.R_alloc | apply Kd.R_drewN | apply Kd.R_drew)); exact HO117.out, by repeat (first | (with_reducible first | exact HB.out | apply below_alloc | apply pw_below_drewN | apply below_drew1) | exact HB.out)⟩

/-! ### laws_FnPrefixes: function 3 -/
mutual
def laws_FnPrefixes.l0 : Nat → List ByteArray → ByteArray → List ByteArray → List ByteArray → Int → Int → Option (Bool)
  | 0, _, _, _, _, _, _ => none
  | k + 1, x0, x3, x4, x10, x11, x12 => if x12 < x11 then (if 0 ≤ x12 then (if x12 < (x10.length : Int) then ((laws_plainText14.f k (rdOf ByteArray.empty x10 x12) 50).bind fun t127 => (if t127 = true then (if (x0.length : Int) > 20 then (laws_FnPrefixes.j1 k x0 x3 x4 (rdOf ByteArray.empty x10 x12) x10 x11 x12 true) else ((spec_Last.f k (rdOf ByteArray.empty x10 x12)).bind fun t128 => (laws_FnPrefixes.j1 k x0 x3 x4 (rdOf ByteArray.empty x10 x12) x10 x11 x12 ((t128.size : Int) != ((rdOf ByteArray.empty x10 x12).size : Int))))) else (laws_FnPrefixes.j1 k x0 x3 x4 (rdOf ByteArray.empty x10 x12) x10 x11 x12 true))) else (none)) else (none)) else ((impl_Prefixes.f k x3).bind fun t119 => (if x4.length < 8796093022208 then ((laws_sameTexts14.f k t119 (x4 ++ [(⟨#[]⟩ : ByteArray)])).bind fun t125 => (some t125)) else (none)))
def laws_FnPrefixes.j1 : Nat → List ByteArray → ByteArray → List ByteArray → ByteArray → List ByteArray → Int → Int → Bool → Option (Bool)
  | 0, _, _, _, _, _, _, _, _ => none
  | k + 1, x0, x3, x4, x6, x10, x11, x12, x31 => if x31 = true then (some true) else (if x3.toList = ([] : List UInt8) then (if x3.size + x6.size ≤ 9223372036854775807 then ((some (([x3 ++ x6] : List ByteArray) : List ByteArray)).bind fun y129 => (if y129.length + x4.length < 8796093022208 then (laws_FnPrefixes.l0 k x0 (x3 ++ x6) (y129 ++ x4) x10 x11 (wrap64 (x12 + 1))) else (none))) else (none)) else (if x3.size + 1 ≤ 9223372036854775807 then (if (x3 ++ (⟨#[46]⟩ : ByteArray)).size + x6.size ≤ 9223372036854775807 then ((some (([(x3 ++ (⟨#[46]⟩ : ByteArray)) ++ x6] : List ByteArray) : List ByteArray)).bind fun y135 => (if y135.length + x4.length < 8796093022208 then (laws_FnPrefixes.l0 k x0 ((x3 ++ (⟨#[46]⟩ : ByteArray)) ++ x6) (y135 ++ x4) x10 x11 (wrap64 (x12 + 1))) else (none))) else (none)) else (none)))
end
def laws_FnPrefixes.f (k : Nat) (l0 : List ByteArray) : Option (Bool) := (laws_zzFits1.f k l0).bind fun t118 => (if t118 = true then (laws_FnPrefixes.l0 k l0 (⟨#[]⟩ : ByteArray) ([] : List ByteArray) l0 (l0.length : Int) 0) else (some true))
theorem laws_FnPrefixes.mono_l : ∀ k, (∀ y0 y1 y2 y3 y4 y5, LeO (laws_FnPrefixes.l0 k y0 y1 y2 y3 y4 y5) (laws_FnPrefixes.l0 (k + 1) y0 y1 y2 y3 y4 y5)) ∧ (∀ y0 y1 y2 y3 y4 y5 y6 y7, LeO (laws_FnPrefixes.j1 k y0 y1 y2 y3 y4 y5 y6 y7) (laws_FnPrefixes.j1 (k + 1) y0 y1 y2 y3 y4 y5 y6 y7))
  | 0 => ⟨fun _ _ _ _ _ _ r h => by simp [laws_FnPrefixes.l0] at h, fun _ _ _ _ _ _ _ _ r h => by simp [laws_FnPrefixes.j1] at h⟩
  | k + 1 => by
    obtain ⟨ih0, ih1⟩ := laws_FnPrefixes.mono_l k
    refine ⟨?_, ?_⟩
    · intro y0 y1 y2 y3 y4 y5
      unfold laws_FnPrefixes.l0
      repeat' first
      | (with_reducible exact ih0 _ _ _ _ _ _)
      | (with_reducible exact ih1 _ _ _ _ _ _ _ _)
      | (with_reducible exact impl_Prefixes.mono _ _)
      | (with_reducible exact laws_plainText14.mono _ _ _)
      | (with_reducible exact laws_sameTexts14.mono _ _ _)
      | (with_reducible exact laws_zzFits1.mono _ _)
      | (with_reducible exact spec_Last.mono _ _)
      | (with_reducible exact LeO.refl _)
      | (with_reducible exact LeO.none _)
      | (with_reducible refine LeO.ite ?_ ?_)
      | (with_reducible refine LeO.bind ?_ (fun _ => ?_))
      | exact ih0 _ _ _ _ _ _
      | exact ih1 _ _ _ _ _ _ _ _
      | exact impl_Prefixes.mono _ _
      | exact laws_plainText14.mono _ _ _
      | exact laws_sameTexts14.mono _ _ _
      | exact laws_zzFits1.mono _ _
      | exact spec_Last.mono _ _
      | exact LeO.none _
      | refine LeO.ite ?_ ?_
      | refine LeO.bind ?_ (fun _ => ?_)
    · intro y0 y1 y2 y3 y4 y5 y6 y7
      unfold laws_FnPrefixes.j1
      repeat' first
      | (with_reducible exact ih0 _ _ _ _ _ _)
      | (with_reducible exact ih1 _ _ _ _ _ _ _ _)
      | (with_reducible exact impl_Prefixes.mono _ _)
      | (with_reducible exact laws_plainText14.mono _ _ _)
      | (with_reducible exact laws_sameTexts14.mono _ _ _)
      | (with_reducible exact laws_zzFits1.mono _ _)
      | (with_reducible exact spec_Last.mono _ _)
      | (with_reducible exact LeO.refl _)
      | (with_reducible exact LeO.none _)
      | (with_reducible refine LeO.ite ?_ ?_)
      | (with_reducible refine LeO.bind ?_ (fun _ => ?_))
      | exact ih0 _ _ _ _ _ _
      | exact ih1 _ _ _ _ _ _ _ _
      | exact impl_Prefixes.mono _ _
      | exact laws_plainText14.mono _ _ _
      | exact laws_sameTexts14.mono _ _ _
      | exact laws_zzFits1.mono _ _
      | exact spec_Last.mono _ _
      | exact LeO.none _
      | refine LeO.ite ?_ ?_
      | refine LeO.bind ?_ (fun _ => ?_)
theorem laws_FnPrefixes.mono : ∀ a0 k, LeO (laws_FnPrefixes.f k a0) (laws_FnPrefixes.f (k + 1) a0) := by
  intro a0 k
  obtain ⟨ih0, ih1⟩ := laws_FnPrefixes.mono_l k
  unfold laws_FnPrefixes.f
  repeat' first
      | (with_reducible exact ih0 _ _ _ _ _ _)
      | (with_reducible exact ih1 _ _ _ _ _ _ _ _)
      | (with_reducible exact impl_Prefixes.mono _ _)
      | (with_reducible exact laws_plainText14.mono _ _ _)
      | (with_reducible exact laws_sameTexts14.mono _ _ _)
      | (with_reducible exact laws_zzFits1.mono _ _)
      | (with_reducible exact spec_Last.mono _ _)
      | (with_reducible exact LeO.refl _)
      | (with_reducible exact LeO.none _)
      | (with_reducible refine LeO.ite ?_ ?_)
      | (with_reducible refine LeO.bind ?_ (fun _ => ?_))
      | exact ih0 _ _ _ _ _ _
      | exact ih1 _ _ _ _ _ _ _ _
      | exact impl_Prefixes.mono _ _
      | exact laws_plainText14.mono _ _ _
      | exact laws_sameTexts14.mono _ _ _
      | exact laws_zzFits1.mono _ _
      | exact spec_Last.mono _ _
      | exact LeO.none _
      | refine LeO.ite ?_ ?_
      | refine LeO.bind ?_ (fun _ => ?_)
set_option maxHeartbeats 8000000 in
set_option maxRecDepth 100000 in
theorem laws_FnPrefixes.calls (k : Nat) (A0 : Option Addr) (c0 : Nat) (l0 : List ByteArray) (r : Bool) (w : World) (hr0 : Kd.C Kd.string w A0 l0.length l0) (hc0 : l0.length ≤ c0) (h : laws_FnPrefixes.f k l0 = some r) :
    Calls Try.prog 3 #[.slice A0 l0.length c0] w fun e w' => e = .returned (.bool r) ∧ Below w.heap.size w w' := by
  have HR0 := Aside0.mk hr0
  have HC0 := Aside0.mk hc0
  clear hr0 hc0
  have HB := Aside0.mk (Below.refl w.heap.size w)
  have H : ((laws_zzFits1.f k l0).bind fun t118 => (if t118 = true then (laws_FnPrefixes.l0 k l0 (⟨#[]⟩ : ByteArray) ([] : List ByteArray) l0 (l0.length : Int) 0) else (some true))) = some r := h
  clear h
  replace H := Option.bind_eq_some_iff.mp H
  obtain ⟨t118, A20, H⟩ := H
  replace H : (if t118 = true then (laws_FnPrefixes.l0 k l0 (⟨#[]⟩ : ByteArray) ([] : List ByteArray) l0 (l0.length : Int) 0) else (some true)) = some r := H
  have A2 := Aside0.mk A20
  clear A20
  by_cases c3 : t118 = true
  · subst c3
    have H1 : (laws_FnPrefixes.l0 k l0 (⟨#[]⟩ : ByteArray) ([] : List ByteArray) l0 (l0.length : Int) 0) = some r := by rw [if_pos rfl] at H; exact H
    clear H
    have H := H1
    clear H1
    have H' := Aside0.mk H
    clear H
    go_enter Try.func3, Try.ntmps3
    go_wp2_with (first | ((with_reducible refine gate_callee (f := 4) rfl ?_); refine goesL_ (some 8) rfl rfl Try.func4 (by kernel_rfl) rfl #[.slice A0 l0.length c0] rfl (by (try simp only [List.map_toArray, List.map_cons, List.map_nil]); first | done | rfl | (simp only [List.length_drop, List.length_take]; rfl)) ?_; (with_reducible refine (laws_zzFits1.calls k _ _ l0 true _ ?side1 ?side2 A2.out).mono ?_); (case side1 => repeat (first | exact HR0.out | (with_reducible refine Kd.C_alloc ?_ _) | (with_reducible refine Kd.C_drewN ?_ _) | (with_reducible refine Kd.C_drew ?_))); (case side2 => exact HC0.out); rintro e w' ⟨rfl, ⟨nd, rfl⟩⟩; refine ⟨_, rfl, ?_⟩))
    go_loopg [3, 4, 12] k (fun kq v3 v4 v12 w' => ∃ (x3_1 : ByteArray) (x4_1 : List ByteArray) (x12_1 : Int), v3 = .string x3_1 ∧ v12 = .int .i64 x12_1 ∧ Aside0 (laws_FnPrefixes.l0 kq l0 x3_1 x4_1 l0 (l0.length : Int) x12_1 = some r) ∧ Aside0 (kq ≤ k) ∧ Aside0 (Kd.R Kd.string 9 w' w.heap.size (fun _ => True) v4 x4_1) ∧ Aside0 (Below w.heap.size w w'))
    case atStart => exact ⟨((⟨#[]⟩ : ByteArray)), (([] : List ByteArray)), (0), (by first | rfl | (simp; done) | (simp [*]; done)), (by first | rfl | (simp; done) | (simp [*]; done)), H', ⟨Nat.le_refl _⟩, ⟨by first | exact Kd.R_nil _ _ _ _ _ | exact Kd.N_nil _ _ _ _ _ | exact Kd.V_nil _ _ _ _ _ | exact Kd.Q_nil _ _ _ _ _ | exact Kd.S_nil _ _ _ _ _⟩, ⟨by repeat (first | (with_reducible first | exact HB.out | apply below_alloc | apply pw_below_drewN | apply below_drew1) | exact HB.out)⟩⟩
    case round =>
      clear H'
      try clear p2
      try clear c3
      obtain ⟨x3_1, x4_1, x12_1, rfl, rfl, HA, HK1, HO_4, HB⟩ := hrel
      cases gk with
      | zero => exact absurd HA.out (by simp [laws_FnPrefixes.l0])
      | succ k1 =>
        have H := HA.out
        clear HA
        simp only [laws_FnPrefixes.l0] at H
        by_cases c4 : x12_1 < (l0.length : Int)
        · rw [if_pos c4] at H
          have c4b0 : decide (x12_1 < (l0.length : Int)) = true := decide_eq_true c4
          clear c4
          by_cases c5 : 0 ≤ x12_1
          · rw [if_pos c5] at H
            have c5b0 : decide (0 ≤ x12_1) = true := decide_eq_true c5
            clear c5
            by_cases c6 : x12_1 < (l0.length : Int)
            · rw [if_pos c6] at H
              have c6b0 : decide (x12_1 < (l0.length : Int)) = true := decide_eq_true c6
              clear c6
              have HC7 := Aside0.mk H
              clear H
              have p126 : 0 ≤ (x12_1 : Int) := of_decide_eq_true (by first | (with_reducible assumption) | assumption)
              have q126 : x12_1 < (l0.length : Int) := of_decide_eq_true (by first | (with_reducible assumption) | assumption)
              obtain ⟨ad126, e126, hx126_0⟩ := Kd.at_string HR0.out x12_1 p126 q126
              cases e126
              replace hx126_0 := (HB.out.cell (World.block_lt_of_cell? w _ hx126_0)).trans hx126_0
              replace p126 := eq_true p126
              replace q126 := eq_true q126
              go_upto_region 8 with (fail)
              go_cut [31] (fun v31 wc => ∃ (kq : Nat) (x31_6 : Bool), v31 = .bool x31_6 ∧ Aside0 (laws_FnPrefixes.j1 kq l0 x3_1 x4_1 (rdOf ByteArray.empty l0 x12_1) l0 (l0.length : Int) x12_1 x31_6 = some r) ∧ Aside0 (kq ≤ k1) ∧ Aside0 (Kd.R Kd.string 9 wc w.heap.size (fun _ => True) u4 x4_1) ∧ Aside0 (Below w.heap.size w wc))
              case first =>
                have H := HC7.out
                clear HC7
                replace H := Option.bind_eq_some_iff.mp H
                obtain ⟨t127, A80, H⟩ := H
                replace H : (if t127 = true then (if (l0.length : Int) > 20 then (laws_FnPrefixes.j1 k1 l0 x3_1 x4_1 (rdOf ByteArray.empty l0 x12_1) l0 (l0.length : Int) x12_1 true) else ((spec_Last.f k1 (rdOf ByteArray.empty l0 x12_1)).bind fun t128 => (laws_FnPrefixes.j1 k1 l0 x3_1 x4_1 (rdOf ByteArray.empty l0 x12_1) l0 (l0.length : Int) x12_1 ((t128.size : Int) != ((rdOf ByteArray.empty l0 x12_1).size : Int))))) else (laws_FnPrefixes.j1 k1 l0 x3_1 x4_1 (rdOf ByteArray.empty l0 x12_1) l0 (l0.length : Int) x12_1 true)) = some r := H
                have A8 := Aside0.mk A80
                clear A80
                by_cases c9 : t127 = true
                · subst c9
                  have H1 : (if (l0.length : Int) > 20 then (laws_FnPrefixes.j1 k1 l0 x3_1 x4_1 (rdOf ByteArray.empty l0 x12_1) l0 (l0.length : Int) x12_1 true) else ((spec_Last.f k1 (rdOf ByteArray.empty l0 x12_1)).bind fun t128 => (laws_FnPrefixes.j1 k1 l0 x3_1 x4_1 (rdOf ByteArray.empty l0 x12_1) l0 (l0.length : Int) x12_1 ((t128.size : Int) != ((rdOf ByteArray.empty l0 x12_1).size : Int))))) = some r := by rw [if_pos rfl] at H; exact H
                  clear H
                  have H := H1
                  clear H1
                  by_cases c10 : (l0.length : Int) > 20
                  · rw [if_pos c10] at H
                    have c10b0 : decide (20 < (l0.length : Int)) = true := decide_eq_true c10
                    have c10b1 : decide (20 < l0.length) = true := decide_eq_true (by omega)
                    clear c10
                    (first | rw [c10b0] | (simp only [i64_w, i32_w]; rw [c10b0]) | skip)
                    have H' := Aside0.mk H
                    clear H
                    go_wp2_with (first | ((with_reducible refine gate_callee (f := 5) rfl ?_); refine goesL_ (some 17) rfl rfl Try.func5 (by kernel_rfl) rfl #[.string (rdOf ByteArray.empty l0 x12_1), .int .i64 50] rfl (by (try simp only [List.map_toArray, List.map_cons, List.map_nil]); first | done | rfl | (simp only [List.length_drop, List.length_take]; rfl)) ?_; (with_reducible refine (laws_plainText14.calls k1 (rdOf ByteArray.empty l0 x12_1) 50 true _ A8.out).mono ?_); rintro e w' ⟨rfl, ⟨nd, rfl⟩⟩; refine ⟨_, rfl, ?_⟩))
                    go_meet
                    case rel => exact ⟨_, (true), (by first | rfl | (simp; done) | (simp [*]; done)), H', ⟨by have := HK1.out; first | omega | exact Nat.le_refl _⟩, ⟨by (with_reducible repeat (first | apply Kd.R_alloc | apply Kd.R_drewN | apply Kd.R_drew)); exact HO_4.out⟩, ⟨by repeat (first | (with_reducible first | exact HB.out | apply below_alloc | apply pw_below_drewN | apply below_drew1) | exact HB.out)⟩⟩
                  · rw [if_neg c10] at H
                    have c10b0 : decide (20 < (l0.length : Int)) = false := decide_eq_false c10
                    have c10b1 : decide (20 < l0.length) = false := decide_eq_false (by omega)
                    clear c10
                    (first | rw [c10b0] | (simp only [i64_w, i32_w]; rw [c10b0]) | skip)
                    replace H := Option.bind_eq_some_iff.mp H
                    obtain ⟨t128, A110, H⟩ := H
                    replace H : (laws_FnPrefixes.j1 k1 l0 x3_1 x4_1 (rdOf ByteArray.empty l0 x12_1) l0 (l0.length : Int) x12_1 ((t128.size : Int) != ((rdOf ByteArray.empty l0 x12_1).size : Int))) = some r := H
                    have A11 := Aside0.mk A110
                    clear A110
                    have H' := Aside0.mk H
                    clear H
                    go_wp2_with (first | ((with_reducible refine gate_callee (f := 5) rfl ?_); refine goesL_ (some 17) rfl rfl Try.func5 (by kernel_rfl) rfl #[.string (rdOf ByteArray.empty l0 x12_1), .int .i64 50] rfl (by (try simp only [List.map_toArray, List.map_cons, List.map_nil]); first | done | rfl | (simp only [List.length_drop, List.length_take]; rfl)) ?_; (with_reducible refine (laws_plainText14.calls k1 (rdOf ByteArray.empty l0 x12_1) 50 true _ A8.out).mono ?_); rintro e w' ⟨rfl, ⟨nd, rfl⟩⟩; refine ⟨_, rfl, ?_⟩) | (go_at_call 6; (with_reducible refine (spec_Last.calls k1 (rdOf ByteArray.empty l0 x12_1) t128 _ A11.out).mono ?_); rintro e w' ⟨rfl, ⟨nd, rfl⟩⟩))
                    go_meet
                    case rel => exact ⟨_, (((t128.size : Int) != ((rdOf ByteArray.empty l0 x12_1).size : Int))), (by first | rfl | (simp; done) | (simp [*]; done)), H', ⟨by have := HK1.out; first | omega | exact Nat.le_refl _⟩, ⟨by (with_reducible repeat (first | apply Kd.R_alloc | apply Kd.R_drewN | apply Kd.R_drew)); exact HO_4.out⟩, ⟨by repeat (first | (with_reducible first | exact HB.out | apply below_alloc | apply pw_below_drewN | apply below_drew1) | exact HB.out)⟩⟩
                · replace c9 := Bool.eq_false_iff.mpr c9
                  subst c9
                  have H1 : (laws_FnPrefixes.j1 k1 l0 x3_1 x4_1 (rdOf ByteArray.empty l0 x12_1) l0 (l0.length : Int) x12_1 true) = some r := by rw [if_neg (show ¬ (false = true) by decide)] at H; exact H
                  clear H
                  have H := H1
                  clear H1
                  have H' := Aside0.mk H
                  clear H
                  go_wp2_with (first | ((with_reducible refine gate_callee (f := 5) rfl ?_); refine goesL_ (some 17) rfl rfl Try.func5 (by kernel_rfl) rfl #[.string (rdOf ByteArray.empty l0 x12_1), .int .i64 50] rfl (by (try simp only [List.map_toArray, List.map_cons, List.map_nil]); first | done | rfl | (simp only [List.length_drop, List.length_take]; rfl)) ?_; (with_reducible refine (laws_plainText14.calls k1 (rdOf ByteArray.empty l0 x12_1) 50 false _ A8.out).mono ?_); rintro e w' ⟨rfl, ⟨nd, rfl⟩⟩; refine ⟨_, rfl, ?_⟩))
                  go_meet
                  case rel => exact ⟨_, (true), (by first | rfl | (simp; done) | (simp [*]; done)), H', ⟨by have := HK1.out; first | omega | exact Nat.le_refl _⟩, ⟨by (with_reducible repeat (first | apply Kd.R_alloc | apply Kd.R_drewN | apply Kd.R_drew)); exact HO_4.out⟩, ⟨by repeat (first | (with_reducible first | exact HB.out | apply below_alloc | apply pw_below_drewN | apply below_drew1) | exact HB.out)⟩⟩
              case rest =>
                clear HC7
                try clear c1
                try clear p1
                try clear q1
                try clear hx1
                try clear p2
                try clear c3
                try clear c4
                try clear c4b0
                try clear c5
                try clear c5b0
                try clear c6
                try clear c6b0
                try clear c9
                try clear c10
                try clear c10b0
                try clear c10b1
                try clear hx126_0
                try clear p126
                try clear p2
                try clear q126
                obtain ⟨kq, x31_6, rfl, HA, HJ6, HO_4, HB⟩ := hcut
                cases kq with
                | zero => exact absurd HA.out (by simp [laws_FnPrefixes.j1])
                | succ kj6 =>
                  have H := HA.out
                  clear HA
                  simp only [laws_FnPrefixes.j1] at H
                  by_cases c12 : x31_6 = true
                  · subst c12
                    have H1 : (some true) = some r := by rw [if_pos rfl] at H; exact H
                    clear H
                    have H := H1
                    clear H1
                    obtain rfl := Option.some.inj H
                    go_wp2
                    go_ret
                    exact ⟨by first | rfl | (simp [errW_none, errW_some] <;> rfl) | (simp [*, errW_none, errW_some] <;> rfl), by repeat (first | (with_reducible first | exact HB.out | apply below_alloc | apply pw_below_drewN | apply below_drew1) | exact HB.out)⟩
                  · replace c12 := Bool.eq_false_iff.mpr c12
                    subst c12
                    have H1 : (if x3_1.toList = ([] : List UInt8) then (if x3_1.size + (rdOf ByteArray.empty l0 x12_1).size ≤ 9223372036854775807 then ((some (([x3_1 ++ (rdOf ByteArray.empty l0 x12_1)] : List ByteArray) : List ByteArray)).bind fun y129 => (if y129.length + x4_1.length < 8796093022208 then (laws_FnPrefixes.l0 kj6 l0 (x3_1 ++ (rdOf ByteArray.empty l0 x12_1)) (y129 ++ x4_1) l0 (l0.length : Int) (wrap64 (x12_1 + 1))) else (none))) else (none)) else (if x3_1.size + 1 ≤ 9223372036854775807 then (if (x3_1 ++ (⟨#[46]⟩ : ByteArray)).size + (rdOf ByteArray.empty l0 x12_1).size ≤ 9223372036854775807 then ((some (([(x3_1 ++ (⟨#[46]⟩ : ByteArray)) ++ (rdOf ByteArray.empty l0 x12_1)] : List ByteArray) : List ByteArray)).bind fun y135 => (if y135.length + x4_1.length < 8796093022208 then (laws_FnPrefixes.l0 kj6 l0 ((x3_1 ++ (⟨#[46]⟩ : ByteArray)) ++ (rdOf ByteArray.empty l0 x12_1)) (y135 ++ x4_1) l0 (l0.length : Int) (wrap64 (x12_1 + 1))) else (none))) else (none)) else (none))) = some r := by rw [if_neg (show ¬ (false = true) by decide)] at H; exact H
                    clear H
                    have H := H1
                    clear H1
                    by_cases c13 : x3_1.toList = ([] : List UInt8)
                    · rw [if_pos c13] at H
                      have c13b0 : (x3_1.toList == ([] : List UInt8)) = true := beq_iff_eq.mpr c13
                      have c13b1 : (x3_1.toList != ([] : List UInt8)) = false := bne_eq_false_iff_eq.mpr c13
                      clear c13
                      by_cases c14 : x3_1.size + (rdOf ByteArray.empty l0 x12_1).size ≤ 9223372036854775807
                      · rw [if_pos c14] at H
                        have c14b0 := eq_true c14
                        have c14b1 : decide (x3_1.size + (rdOf ByteArray.empty l0 x12_1).size ≤ 9223372036854775807) = true := decide_eq_true c14
                        try have c14b2 : (9223372036854775807 < x3_1.size + (rdOf ByteArray.empty l0 x12_1).size) = False := eq_false (Nat.not_lt.2 c14)
                        obtain ⟨y129, hy129⟩ : ∃ y_ : List ByteArray, y_ = (([x3_1 ++ (rdOf ByteArray.empty l0 x12_1)] : List ByteArray)) := ⟨_, rfl⟩
                        replace H : (if y129.length + x4_1.length < 8796093022208 then (laws_FnPrefixes.l0 kj6 l0 (x3_1 ++ (rdOf ByteArray.empty l0 x12_1)) (y129 ++ x4_1) l0 (l0.length : Int) (wrap64 (x12_1 + 1))) else (none)) = some r := by first | (rw [hy129]; with_reducible exact H) | (have H2_ := (Option.bind_some _ _).symm.trans H; rw [hy129]; with_reducible exact H2_) | (have H2_ := (Option.bind_some _ _).symm.trans H; with_reducible exact H2_) | with_reducible exact H | (rw [hy129]; exact H) | exact H
                        have Ny129 := Aside0.mk hy129
                        clear hy129
                        by_cases c15 : y129.length + x4_1.length < 8796093022208
                        · rw [if_pos c15] at H
                          have LMc15 := Aside0.mk c15
                          clear c15
                          obtain ⟨y132, hy132⟩ : ∃ y_ : List ByteArray, y_ = (y129 ++ x4_1) := ⟨_, rfl⟩
                          replace H : (laws_FnPrefixes.l0 kj6 l0 (x3_1 ++ (rdOf ByteArray.empty l0 x12_1)) y132 l0 (l0.length : Int) (wrap64 (x12_1 + 1))) = some r := by first | (rw [hy132]; with_reducible exact H) | (have H2_ := (Option.bind_some _ _).symm.trans H; rw [hy132]; with_reducible exact H2_) | (have H2_ := (Option.bind_some _ _).symm.trans H; with_reducible exact H2_) | with_reducible exact H | (rw [hy132]; exact H) | exact H
                          have Ny132 := Aside0.mk hy132
                          clear hy132
                          have H' := Aside0.mk H
                          clear H
                          go_wp2_with (first | ((with_reducible refine gate_dst (N := 40) rfl ?_); (try (refine gate_guard (by rfl) ?_; dsimp only)); refine Kd.R_lit Kd.string _ 9 ?hg (N := 40) ?hd (xs := ([x3_1 ++ (rdOf ByteArray.empty l0 x12_1)] : List ByteArray)) (inner := [.string (x3_1 ++ (rdOf ByteArray.empty l0 x12_1))]) (ok := fun _ => True) (okp := fun _ => True) ?hr ?hp (fun _ hk => hk) trivial (Below.refl _ _) (Nat.le_refl _) (by simp) ?_; (case hd => rfl); (case hg => rfl); (case hr => first | (go_simp; done) | (go_simp; rfl)); (case hp => exact (Reps.one (show Kd.M Kd.string _ _ _ (x3_1 ++ (rdOf ByteArray.empty l0 x12_1)) [.string (x3_1 ++ (rdOf ByteArray.empty l0 x12_1))] from rfl) (Reps.none _ _))); intro v130 w16 ho17 hb hg_ hnew_; clear hg_ hnew_; (first | rw [← Ny129.out] at ho17 | (simp only [Int.reduceToNat] at ho17; rw [← Ny129.out] at ho17)); have n0_ := Aside0.mk (Kd.R_elder' (by (with_reducible repeat (first | apply Kd.R_alloc | apply Kd.R_drewN | apply Kd.R_drew)); exact HO_4.out) (Kd.R_base ho17) hb); have n1_ := Aside0.mk (Kd.R_lower (Kd.R_new' ho17 (Kd.R_lt (by (with_reducible repeat (first | apply Kd.R_alloc | apply Kd.R_drewN | apply Kd.R_drew)); exact HO_4.out))) (below_size (by repeat (first | (with_reducible first | exact HB.out | apply below_alloc | apply pw_below_drewN | apply below_drew1) | exact HB.out)))); have n2_ := Aside0.mk (below_step (by repeat (first | (with_reducible first | exact HB.out | apply below_alloc | apply pw_below_drewN | apply below_drew1) | exact HB.out)) hb); clear HO_4; clear HB; have HO_4 := n0_; have HO131 := n1_; have HB := n2_; clear n0_ n1_ n2_; clear hb ho17; obtain ⟨Ao19, co19, eo19⟩ := Kd.R_slice HO_4.out; subst eo19) | ((with_reducible refine gate_builtin (b := .append) (xs := #[.tmp 40, .tmp 41]) rfl ?_); (try (refine gate_guard (by rfl) ?_; dsimp only)); at_builtin; refine Kd.R_append_rows Kd.string (w0 := w) w.heap.size rfl (.tmp 40) (.tmp 41) 22 9 (.string ⟨#[]⟩) 16 rfl Try.underlying22 info9 rfl (by decide) (by omega) v130 y129 x4_1 _ _ _ (fun k_ => some k_ ≠ (.slice Ao19 x4_1.length co19 : Value).ownBlock) (fun _ => False) rfl rfl ?aO ?aR (fun _ _ h => h) (fun _ h => h.elim) ?aF ?aB ?aS ?aL ?_; (case aR => repeat (first | exact (Kd.R_reads' HO_4.out).2.2 | (with_reducible refine Kd.C_alloc ?_ _) | (with_reducible refine Kd.C_drewN ?_ _) | (with_reducible refine Kd.C_drew ?_))); (case aB => exact (by repeat (first | (with_reducible first | exact HB.out | apply below_alloc | apply pw_below_drewN | apply below_drew1) | exact HB.out))); (case aF => exact (fun k_ hk => Kd.fresh' (Kd.R_lt (by (with_reducible repeat (first | apply Kd.R_alloc | apply Kd.R_drewN | apply Kd.R_drew)); exact HO_4.out)) k_ hk)); (case aO => exact (by (with_reducible repeat (first | apply Kd.R_alloc | apply Kd.R_drewN | apply Kd.R_drew)); exact Kd.R_mono HO131.out (fun _ hk => hk.2))); (case aS => exact (below_size (by repeat (first | (with_reducible first | exact HB.out | apply below_alloc | apply pw_below_drewN | apply below_drew1) | exact HB.out)))); (case aL => have := LMc15.out; omega); intro v133 w18 ho hb hg hat; rw [← Ny132.out] at ho; have n0_ := Aside0.mk (Kd.R_after (ok := (fun _ => True)) (by (with_reducible repeat (first | apply Kd.R_alloc | apply Kd.R_drewN | apply Kd.R_drew)); exact HO_4.out) hg hat); have n1_ := Aside0.mk (hb); have n2_ := Aside0.mk (ho); clear HO_4; clear HB; clear HO131; have HO_4 := n0_; have HB := n1_; have HO134 := n2_; clear n0_ n1_ n2_; clear ho hb hg hat))
                          go_roundg kj6
                          case measure => have := HK1.out; have := HJ6.out; omega
                          case rel => exact ⟨(x3_1 ++ (rdOf ByteArray.empty l0 x12_1)), (y132), (wrap64 (x12_1 + 1)), (by first | rfl | (simp; done) | (simp [*]; done)), (by first | rfl | (simp; done) | (simp [*]; done)), H', ⟨by have := HK1.out; have := HJ6.out; omega⟩, ⟨by (with_reducible repeat (first | apply Kd.R_alloc | apply Kd.R_drewN | apply Kd.R_drew)); exact Kd.R_mono HO134.out (fun _ hk => trivial)⟩, ⟨by repeat (first | (with_reducible first | exact HB.out | apply below_alloc | apply pw_below_drewN | apply below_drew1) | exact HB.out)⟩⟩
                        · rw [if_neg c15] at H
                          exact absurd H (by simp)
                      · rw [if_neg c14] at H
                        exact absurd H (by simp)
                    · rw [if_neg c13] at H
                      have c13b0 : (x3_1.toList == ([] : List UInt8)) = false := beq_eq_false_iff_ne.mpr c13
                      have c13b1 : (x3_1.toList != ([] : List UInt8)) = true := bne_iff_ne.mpr c13
                      by_cases c20 : x3_1.size + 1 ≤ 9223372036854775807
                      · rw [if_pos c20] at H
                        have c20b0 := eq_true c20
                        have c20b1 : decide (x3_1.size + 1 ≤ 9223372036854775807) = true := decide_eq_true c20
                        try have c20b2 : (9223372036854775807 < x3_1.size + 1) = False := eq_false (Nat.not_lt.2 c20)
                        by_cases c21 : (x3_1 ++ (⟨#[46]⟩ : ByteArray)).size + (rdOf ByteArray.empty l0 x12_1).size ≤ 9223372036854775807
                        · rw [if_pos c21] at H
                          have c21b0 := eq_true c21
                          have c21b1 : decide ((x3_1 ++ (⟨#[46]⟩ : ByteArray)).size + (rdOf ByteArray.empty l0 x12_1).size ≤ 9223372036854775807) = true := decide_eq_true c21
                          try have c21b2 : (9223372036854775807 < (x3_1 ++ (⟨#[46]⟩ : ByteArray)).size + (rdOf ByteArray.empty l0 x12_1).size) = False := eq_false (Nat.not_lt.2 c21)
                          obtain ⟨y135, hy135⟩ : ∃ y_ : List ByteArray, y_ = (([(x3_1 ++ (⟨#[46]⟩ : ByteArray)) ++ (rdOf ByteArray.empty l0 x12_1)] : List ByteArray)) := ⟨_, rfl⟩
                          replace H : (if y135.length + x4_1.length < 8796093022208 then (laws_FnPrefixes.l0 kj6 l0 ((x3_1 ++ (⟨#[46]⟩ : ByteArray)) ++ (rdOf ByteArray.empty l0 x12_1)) (y135 ++ x4_1) l0 (l0.length : Int) (wrap64 (x12_1 + 1))) else (none)) = some r := by first | (rw [hy135]; with_reducible exact H) | (have H2_ := (Option.bind_some _ _).symm.trans H; rw [hy135]; with_reducible exact H2_) | (have H2_ := (Option.bind_some _ _).symm.trans H; with_reducible exact H2_) | with_reducible exact H | (rw [hy135]; exact H) | exact H
                          have Ny135 := Aside0.mk hy135
                          clear hy135
                          by_cases c22 : y135.length + x4_1.length < 8796093022208
                          · rw [if_pos c22] at H
                            have LMc22 := Aside0.mk c22
                            clear c22
                            obtain ⟨y138, hy138⟩ : ∃ y_ : List ByteArray, y_ = (y135 ++ x4_1) := ⟨_, rfl⟩
                            replace H : (laws_FnPrefixes.l0 kj6 l0 ((x3_1 ++ (⟨#[46]⟩ : ByteArray)) ++ (rdOf ByteArray.empty l0 x12_1)) y138 l0 (l0.length : Int) (wrap64 (x12_1 + 1))) = some r := by first | (rw [hy138]; with_reducible exact H) | (have H2_ := (Option.bind_some _ _).symm.trans H; rw [hy138]; with_reducible exact H2_) | (have H2_ := (Option.bind_some _ _).symm.trans H; with_reducible exact H2_) | with_reducible exact H | (rw [hy138]; exact H) | exact H
                            have Ny138 := Aside0.mk hy138
                            clear hy138
                            have H' := Aside0.mk H
                            clear H
                            go_wp2_with (first | ((with_reducible refine gate_dst (N := 40) rfl ?_); (try (refine gate_guard (by rfl) ?_; dsimp only)); refine Kd.R_lit Kd.string _ 9 ?hg (N := 40) ?hd (xs := ([(x3_1 ++ (⟨#[46]⟩ : ByteArray)) ++ (rdOf ByteArray.empty l0 x12_1)] : List ByteArray)) (inner := [.string ((x3_1 ++ (⟨#[46]⟩ : ByteArray)) ++ (rdOf ByteArray.empty l0 x12_1))]) (ok := fun _ => True) (okp := fun _ => True) ?hr ?hp (fun _ hk => hk) trivial (Below.refl _ _) (Nat.le_refl _) (by simp) ?_; (case hd => rfl); (case hg => rfl); (case hr => first | (go_simp; done) | (go_simp; rfl)); (case hp => exact (Reps.one (show Kd.M Kd.string _ _ _ ((x3_1 ++ (⟨#[46]⟩ : ByteArray)) ++ (rdOf ByteArray.empty l0 x12_1)) [.string ((x3_1 ++ (⟨#[46]⟩ : ByteArray)) ++ (rdOf ByteArray.empty l0 x12_1))] from rfl) (Reps.none _ _))); intro v136 w23 ho24 hb hg_ hnew_; clear hg_ hnew_; (first | rw [← Ny135.out] at ho24 | (simp only [Int.reduceToNat] at ho24; rw [← Ny135.out] at ho24)); have n0_ := Aside0.mk (Kd.R_elder' (by (with_reducible repeat (first | apply Kd.R_alloc | apply Kd.R_drewN | apply Kd.R_drew)); exact HO_4.out) (Kd.R_base ho24) hb); have n1_ := Aside0.mk (Kd.R_lower (Kd.R_new' ho24 (Kd.R_lt (by (with_reducible repeat (first | apply Kd.R_alloc | apply Kd.R_drewN | apply Kd.R_drew)); exact HO_4.out))) (below_size (by repeat (first | (with_reducible first | exact HB.out | apply below_alloc | apply pw_below_drewN | apply below_drew1) | exact HB.out)))); have n2_ := Aside0.mk (below_step (by repeat (first | (with_reducible first | exact HB.out | apply below_alloc | apply pw_below_drewN | apply below_drew1) | exact HB.out)) hb); clear HO_4; clear HB; have HO_4 := n0_; have HO137 := n1_; have HB := n2_; clear n0_ n1_ n2_; clear hb ho24; obtain ⟨Ao26, co26, eo26⟩ := Kd.R_slice HO_4.out; subst eo26) | ((with_reducible refine gate_builtin (b := .append) (xs := #[.tmp 40, .tmp 41]) rfl ?_); (try (refine gate_guard (by rfl) ?_; dsimp only)); at_builtin; refine Kd.R_append_rows Kd.string (w0 := w) w.heap.size rfl (.tmp 40) (.tmp 41) 22 9 (.string ⟨#[]⟩) 16 rfl Try.underlying22 info9 rfl (by decide) (by omega) v136 y135 x4_1 _ _ _ (fun k_ => some k_ ≠ (.slice Ao26 x4_1.length co26 : Value).ownBlock) (fun _ => False) rfl rfl ?aO ?aR (fun _ _ h => h) (fun _ h => h.elim) ?aF ?aB ?aS ?aL ?_; (case aR => repeat (first | exact (Kd.R_reads' HO_4.out).2.2 | (with_reducible refine Kd.C_alloc ?_ _) | (with_reducible refine Kd.C_drewN ?_ _) | (with_reducible refine Kd.C_drew ?_))); (case aB => exact (by repeat (first | (with_reducible first | exact HB.out | apply below_alloc | apply pw_below_drewN | apply below_drew1) | exact HB.out))); (case aF => exact (fun k_ hk => Kd.fresh' (Kd.R_lt (by (with_reducible repeat (first | apply Kd.R_alloc | apply Kd.R_drewN | apply Kd.R_drew)); exact HO_4.out)) k_ hk)); (case aO => exact (by (with_reducible repeat (first | apply Kd.R_alloc | apply Kd.R_drewN | apply Kd.R_drew)); exact Kd.R_mono HO137.out (fun _ hk => hk.2))); (case aS => exact (below_size (by repeat (first | (with_reducible first | exact HB.out | apply below_alloc | apply pw_below_drewN | apply below_drew1) | exact HB.out)))); (case aL => have := LMc22.out; omega); intro v139 w25 ho hb hg hat; rw [← Ny138.out] at ho; have n0_ := Aside0.mk (Kd.R_after (ok := (fun _ => True)) (by (with_reducible repeat (first | apply Kd.R_alloc | apply Kd.R_drewN | apply Kd.R_drew)); exact HO_4.out) hg hat); have n1_ := Aside0.mk (hb); have n2_ := Aside0.mk (ho); clear HO_4; clear HB; clear HO137; have HO_4 := n0_; have HB := n1_; have HO140 := n2_; clear n0_ n1_ n2_; clear ho hb hg hat))
                            go_roundg kj6
                            case measure => have := HK1.out; have := HJ6.out; omega
                            case rel => exact ⟨((x3_1 ++ (⟨#[46]⟩ : ByteArray)) ++ (rdOf ByteArray.empty l0 x12_1)), (y138), (wrap64 (x12_1 + 1)), (by first | rfl | (simp; done) | (simp [*]; done)), (by first | rfl | (simp; done) | (simp [*]; done)), H', ⟨by have := HK1.out; have := HJ6.out; omega⟩, ⟨by (with_reducible repeat (first | apply Kd.R_alloc | apply Kd.R_drewN | apply Kd.R_drew)); exact Kd.R_mono HO140.out (fun _ hk => trivial)⟩, ⟨by repeat (first | (with_reducible first | exact HB.out | apply below_alloc | apply pw_below_drewN | apply below_drew1) | exact HB.out)⟩⟩
                          · rw [if_neg c22] at H
                            exact absurd H (by simp)
                        · rw [if_neg c21] at H
                          exact absurd H (by simp)
                      · rw [if_neg c20] at H
                        exact absurd H (by simp)
            · rw [if_neg c6] at H
              exact absurd H (by simp)
          · rw [if_neg c5] at H
            exact absurd H (by simp)
        · rw [if_neg c4] at H
          have c4b0 : decide (x12_1 < (l0.length : Int)) = false := decide_eq_false c4
          clear c4
          replace H := Option.bind_eq_some_iff.mp H
          obtain ⟨t119, A270, H⟩ := H
          replace H : (if x4_1.length < 8796093022208 then ((laws_sameTexts14.f k1 t119 (x4_1 ++ [(⟨#[]⟩ : ByteArray)])).bind fun t125 => (some t125)) else (none)) = some r := H
          have A27 := Aside0.mk A270
          clear A270
          by_cases c28 : x4_1.length < 8796093022208
          · rw [if_pos c28] at H
            have LMc28 := Aside0.mk c28
            clear c28
            obtain ⟨y122, hy122⟩ : ∃ y_ : List ByteArray, y_ = (x4_1 ++ [(⟨#[]⟩ : ByteArray)]) := ⟨_, rfl⟩
            replace H : ((laws_sameTexts14.f k1 t119 y122).bind fun t125 => (some t125)) = some r := by first | (rw [hy122]; with_reducible exact H) | (have H2_ := (Option.bind_some _ _).symm.trans H; rw [hy122]; with_reducible exact H2_) | (have H2_ := (Option.bind_some _ _).symm.trans H; with_reducible exact H2_) | with_reducible exact H | (rw [hy122]; exact H) | exact H
            have Ny122 := Aside0.mk hy122
            clear hy122
            replace H := Option.bind_eq_some_iff.mp H
            obtain ⟨t125, A290, H⟩ := H
            replace H : (some t125) = some r := H
            have A29 := Aside0.mk A290
            clear A290
            obtain rfl := Option.some.inj H
            go_wp2_with (first | ((with_reducible refine gate_callee (f := 8) rfl ?_); refine goesL_ (some 45) rfl rfl Try.func8 (by kernel_rfl) rfl #[.string x3_1] rfl (by (try simp only [List.map_toArray, List.map_cons, List.map_nil]); first | done | rfl | (simp only [List.length_drop, List.length_take]; rfl)) ?_; (with_reducible refine (impl_Prefixes.calls k1 x3_1 t119 _ A27.out).mono ?_); rintro e w30 ⟨v120, rfl, ho0, hb⟩; refine ⟨_, rfl, ?_⟩; have n0_ := Aside0.mk (Kd.R_elder' (by (with_reducible repeat (first | apply Kd.R_alloc | apply Kd.R_drewN | apply Kd.R_drew)); exact HO_4.out) (Kd.R_base ho0) hb); have n1_ := Aside0.mk (Kd.R_lower (Kd.R_new' ho0 (Kd.R_lt (by (with_reducible repeat (first | apply Kd.R_alloc | apply Kd.R_drewN | apply Kd.R_drew)); exact HO_4.out))) (below_size (by repeat (first | (with_reducible first | exact HB.out | apply below_alloc | apply pw_below_drewN | apply below_drew1) | exact HB.out)))); have n2_ := Aside0.mk (below_step (by repeat (first | (with_reducible first | exact HB.out | apply below_alloc | apply pw_below_drewN | apply below_drew1) | exact HB.out)) hb); clear HO_4; clear HB; have HO_4 := n0_; have HO121 := n1_; have HB := n2_; clear n0_ n1_ n2_; (try clear hb); (try clear hb2); (try clear hk); (try clear hi); (try clear ho0)) | ((with_reducible refine gate_builtin (b := .append) (xs := #[.tmp 46, .tmp 47]) rfl ?_); (try (refine gate_guard (by rfl) ?_; dsimp only)); at_builtin; refine Kd.R_append Kd.string (w0 := w) w.heap.size rfl (.tmp 46) (.tmp 47) 22 9 (.string ⟨#[]⟩) 16 rfl Try.underlying22 info9 rfl (by decide) (by omega) u4 x4_1 (⟨#[]⟩ : ByteArray) [.string (⟨#[]⟩ : ByteArray)] (fun k_ => some k_ ≠ (v120 : Value).ownBlock) (fun _ => False) rfl rfl ?aP (fun _ hk => hk.elim) ?aF ?aO ?aB ?aS ?aL ?_; (case aP => exact rfl); (case aB => exact (by repeat (first | (with_reducible first | exact HB.out | apply below_alloc | apply pw_below_drewN | apply below_drew1) | exact HB.out))); (case aF => exact (fun k_ hk => Kd.fresh' (Kd.R_lt (by (with_reducible repeat (first | apply Kd.R_alloc | apply Kd.R_drewN | apply Kd.R_drew)); exact HO121.out)) k_ hk)); (case aO => exact (by (with_reducible repeat (first | apply Kd.R_alloc | apply Kd.R_drewN | apply Kd.R_drew)); exact Kd.R_mono HO_4.out (fun _ hk => hk.2))); (case aS => exact (below_size (by repeat (first | (with_reducible first | exact HB.out | apply below_alloc | apply pw_below_drewN | apply below_drew1) | exact HB.out)))); (case aL => have := LMc28.out; omega); intro v123 w31 ho hb hg hat; rw [← Ny122.out] at ho; have n0_ := Aside0.mk (Kd.R_after (ok := (fun _ => True)) (by (with_reducible repeat (first | apply Kd.R_alloc | apply Kd.R_drewN | apply Kd.R_drew)); exact HO121.out) hg hat); have n1_ := Aside0.mk (hb); have n2_ := Aside0.mk (ho); clear HO121; clear HB; clear HO_4; have HO121 := n0_; have HB := n1_; have HO124 := n2_; clear n0_ n1_ n2_; clear ho hb hg hat; obtain ⟨Ao32, co32, eo32⟩ := Kd.R_slice HO121.out; subst eo32; obtain ⟨Ao33, co33, eo33⟩ := Kd.R_slice HO124.out; subst eo33) | ((with_reducible refine gate_callee (f := 7) rfl ?_); refine goesL_ (some 49) rfl rfl Try.func7 (by kernel_rfl) rfl #[.slice Ao32 t119.length co32, .slice Ao33 y122.length co33] rfl (by (try simp only [List.map_toArray, List.map_cons, List.map_nil]); first | done | rfl | (simp only [List.length_drop, List.length_take]; rfl)) ?_; (with_reducible refine (laws_sameTexts14.calls k1 _ _ t119 _ _ y122 t125 _ ?side1 ?side2 ?side3 ?side4 A29.out).mono ?_); (case side1 => repeat (first | exact (Kd.R_reads' HO121.out).2.2 | (with_reducible refine Kd.C_alloc ?_ _) | (with_reducible refine Kd.C_drewN ?_ _) | (with_reducible refine Kd.C_drew ?_))); (case side2 => exact (Kd.R_reads' HO121.out).2.1); (case side3 => repeat (first | exact (Kd.R_reads' HO124.out).2.2 | (with_reducible refine Kd.C_alloc ?_ _) | (with_reducible refine Kd.C_drewN ?_ _) | (with_reducible refine Kd.C_drew ?_))); (case side4 => exact (Kd.R_reads' HO124.out).2.1); rintro e w' ⟨rfl, ⟨nd, rfl⟩⟩; refine ⟨_, rfl, ?_⟩))
            go_ret
            exact ⟨by first | rfl | (simp [errW_none, errW_some] <;> rfl) | (simp [*, errW_none, errW_some] <;> rfl), by repeat (first | (with_reducible first | exact HB.out | apply below_alloc | apply pw_below_drewN | apply below_drew1) | exact HB.out)⟩
          · rw [if_neg c28] at H
            exact absurd H (by simp)
  · replace c3 := Bool.eq_false_iff.mpr c3
    subst c3
    have H1 : (some true) = some r := by rw [if_neg (show ¬ (false = true) by decide)] at H; exact H
    clear H
    have H := H1
    clear H1
    obtain rfl := Option.some.inj H
    go_enter Try.func3, Try.ntmps3
    go_wp2_with (first | ((with_reducible refine gate_callee (f := 4) rfl ?_); refine goesL_ (some 8) rfl rfl Try.func4 (by kernel_rfl) rfl #[.slice A0 l0.length c0] rfl (by (try simp only [List.map_toArray, List.map_cons, List.map_nil]); first | done | rfl | (simp only [List.length_drop, List.length_take]; rfl)) ?_; (with_reducible refine (laws_zzFits1.calls k _ _ l0 false _ ?side1 ?side2 A2.out).mono ?_); (case side1 => repeat (first | exact HR0.out | (with_reducible refine Kd.C_alloc ?_ _) | (with_reducible refine Kd.C_drewN ?_ _) | (with_reducible refine Kd.C_drew ?_))); (case side2 => exact HC0.out); rintro e w' ⟨rfl, ⟨nd, rfl⟩⟩; refine ⟨_, rfl, ?_⟩))
    go_ret
    exact ⟨by first | rfl | (simp [errW_none, errW_some] <;> rfl) | (simp [*, errW_none, errW_some] <;> rfl), by repeat (first | (with_reducible first | exact HB.out | apply below_alloc | apply pw_below_drewN | apply below_drew1) | exact HB.out)⟩

end Go.Proofs.Ytnclklfhjbkjhaa.PFnPrefixes
