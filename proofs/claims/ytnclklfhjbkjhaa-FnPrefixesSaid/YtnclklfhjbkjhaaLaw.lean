/-
  FnPrefixes, the law's walk: for every slice of texts the call answers true and nothing of old turns. Condition: the slice reads as a list.
-/
import Derived.Test.YtnclklfhjbkjhaaList
import Derived.Laws.AppendOwnNone
namespace Go.Proofs.Ytnclklfhjbkjhaa.Walk
open Go.RowKit

theorem own_below {w w' : World} {base : Nat} {e : TypeId} {size n : Nat} {v : Value} {xs : List Value} (h : w.ownsRow base e size v n xs) (hb : Below w.heap.size w w') : w'.ownsRow base e size v n xs := by
  refine ⟨h.1, ?_⟩
  rcases h.2 with hn | ⟨g, cap, cur, rfl, hbg, hg, rest⟩
  · exact .inl hn
  · exact .inr ⟨g, cap, cur, rfl, hbg, (hb.block g (Array.getElem?_eq_some_iff.1 hg).1).trans hg, rest⟩
theorem block_add (g j : Nat) : ((⟨g, 0, none⟩ : Addr).add j).block = g := by unfold Addr.add; split <;> rfl
theorem Rd.grown {w w' : World} {g : Nat} {ss : List ByteArray} {o : Option Nat} (h : Rd w (some ⟨g, 0, none⟩) ss) (hg : w.grownBy w' o) (hne : some g ≠ o) : Rd w' (some ⟨g, 0, none⟩) ss := fun hn => by
  obtain ⟨ad, e, hc⟩ := h hn
  cases e
  exact ⟨_, rfl, fun j s hs => hg.cell (hc j s hs) (by rw [block_add]; exact hne)⟩
theorem own_some {w : World} {base : Nat} {e : TypeId} {size n : Nat} {v : Value} {xs : List Value} (h : w.ownsRow base e size v n xs) (hn : n ≠ 0) : ∃ g cap, v = .slice (some ⟨g, 0, none⟩) n cap := by
  rcases h.2 with ⟨_, h0⟩ | ⟨g, cap, cur, h, _⟩
  · exact absurd h0 hn
  · exact ⟨g, cap, h⟩

/-- What holds behind k parts: the package so far, the texts that are wanted so far (they lie in a row of the call's own). -/
structure St (n : Nat) (w : World) (k : Nat) (pack : ByteArray) (want : List ByteArray) (v : Value) (wr : World) : Prop where
  own : wr.ownsRow w.heap.size 9 1 v want.length (want.map Value.string)
  bel : Below w.heap.size w wr
  inv : Inv pack want
  nil_ : want = [] → v = .slice none 0 0
  size : pack.size ≤ 51 * k
  len : want.length ≤ k
  few : 0 < k → n ≤ 20

theorem St.start (n : Nat) (w : World) : St n w 0 ⟨#[]⟩ [] (.slice none 0 0) w := ⟨World.ownsRow_nil _ _ _ _, Below.refl _ _, Inv.start, fun _ => rfl, Nat.zero_le _, Nat.le_refl _, fun h => by omega⟩
theorem St.some_ {n : Nat} {w : World} {k : Nat} {pack : ByteArray} {want : List ByteArray} {v : Value} {wr : World} (h : St n w k pack want v wr) (h0 : pack.size ≠ 0) : ∃ g cap, v = .slice (some ⟨g, 0, none⟩) want.length cap := by
  refine own_some h.own ?_
  rcases h.inv with ⟨h1, _⟩ | ⟨_, hw⟩
  · exact absurd h1 h0
  · rw [hw]; simp
theorem St.none_ {n : Nat} {w : World} {k : Nat} {pack : ByteArray} {want : List ByteArray} {v : Value} {wr : World} (h : St n w k pack want v wr) (h0 : pack.size = 0) : want = [] ∧ v = .slice none 0 0 := by
  rcases h.inv with ⟨_, hw⟩ | ⟨h1, _⟩
  · exact ⟨hw, h.nil_ hw⟩
  · exact absurd h0 h1
/-- The first part. -/
theorem St.first {n : Nat} {w : World} {k : Nat} {pack : ByteArray} {want : List ByteArray} {v : Value} {wr : World} (h : St n w k pack want v wr) (h0 : pack.size = 0) {p : ByteArray} (hp : 0 < p.size) (hp50 : p.size ≤ 50) (hd : NoDot p) (hn : n ≤ 20) :
    St n w (k + 1) (pack ++ p) [pack ++ p] (.slice (some ⟨wr.heap.size, 0, none⟩) 1 1) (wr.alloc (.cells #[.string (pack ++ p)] 9)) := by
  obtain ⟨hw, _⟩ := h.none_ h0
  have hI := h.inv.first h0 hp hd
  rw [hw] at hI
  have hs := h.size
  exact ⟨World.ownsRow_lit wr #[.string (pack ++ p)] 1 h.bel.size (by decide) rfl, h.bel.alloc h.bel.size _, hI, (fun e => by cases e), by rw [ByteArray.size_append]; omega, by simp, fun _ => hn⟩
/-- A part more. -/
theorem St.next {n : Nat} {w : World} {k : Nat} {pack : ByteArray} {want : List ByteArray} {v v' : Value} {wr w1 : World} {o : Obj} (h : St n w k pack want v wr) (h0 : pack.size ≠ 0) {p : ByteArray} (hp50 : p.size ≤ 50) (hd : NoDot p) (hn : n ≤ 20)
    (hown : w1.ownsRow w.heap.size 9 1 v' (1 + want.length) ([Value.string (pack ++ ⟨#[46]⟩ ++ p)] ++ want.map Value.string)) (hg : (wr.alloc o).grownBy w1 (some wr.heap.size)) :
    St n w (k + 1) (pack ++ ⟨#[46]⟩ ++ p) ((pack ++ ⟨#[46]⟩ ++ p) :: want) v' w1 := by
  have hs := h.size
  have hl := h.len
  have h46 : (⟨#[46]⟩ : ByteArray).size = 1 := rfl
  refine ⟨by rw [List.length_cons, Nat.add_comm]; exact hown, (h.bel.alloc h.bel.size _).grown hg (by have := h.bel.size; simp; omega) (fun j hj => by cases hj; exact h.bel.size), h.inv.next h0 hd, (fun e => by cases e), ?_, by simp; exact hl, fun _ => hn⟩
  rw [ByteArray.size_append, ByteArray.size_append, h46]
  omega

set_option maxHeartbeats 6400000 in
set_option maxRecDepth 100000 in
theorem law_any (A : Option Addr) (c n : Nat) (ss : List ByteArray) (w : World) (hn : ss.length = n) (hR : Rd w A ss) :
    Calls Try.prog 3 #[.slice A n c] w fun e w' => e = .returned (.bool true) ∧ Below w.heap.size w w' := by
  obtain ⟨i0, hi, hz0, hz1, hz2⟩ := info_parts info9
  have HN := Lib.hid hn
  have HR := Lib.hid hR
  clear hn hR
  go_enter Try.func3, Try.ntmps3
  go_wp2_with fail
  refine (fits_any A c n ss _ HN.out HR.out).mono ?_
  rintro e w1 ⟨b, rfl, hf, rfl⟩
  cases b with
  | false =>
    go_wp2_with fail
    go_ret
    exact ⟨rfl, Below.refl _ _⟩
  | true =>
    obtain ⟨hl, hs⟩ := hf rfl
    have hn31 : n ≤ 2147483647 := by rw [← HN.out]; exact hl
    have HS := Lib.hid hs
    clear hf hl hs
    go_wp2_with fail
    go_loopw [3, 4, 12] (fun t v i wr => ∃ (k : Nat) (pack : ByteArray) (want : List ByteArray), k ≤ n ∧ i = .int .i64 k ∧ t = .string pack ∧ Hid (St n w k pack want v wr)) (fun _ _ i _ => n - (intOf i).toNat)
    case atStart => exact ⟨0, ⟨#[]⟩, [], Nat.zero_le _, rfl, rfl, Lib.hid (St.start n w)⟩
    case round =>
      obtain ⟨k, pack, want, hk, rfl, rfl, hS⟩ := hrel
      by_cases hlt : k < n
      · obtain ⟨ad, s, hA, hsk, hcell⟩ := (HR.out.below hS.out.bel).at_ (show k < ss.length by rw [HN.out]; exact hlt)
        have hsz := HS.out k s hsk
        cases hA
        clear hsk
        go_wp2_with fail
        refine (plain50_any s _ hsz).mono ?_
        rintro e w2 ⟨b, rfl, hp, rfl⟩
        cases b with
        | false =>
          go_wp2_with fail
          go_ret
          exact ⟨rfl, hS.out.bel⟩
        | true =>
          obtain ⟨hp0, hp50⟩ := hp rfl
          clear hp
          by_cases h20 : 20 < n
          · go_wp2_with fail
            go_ret
            exact ⟨rfl, hS.out.bel⟩
          · have hn20 : n ≤ 20 := by omega
            clear h20
            go_wp2_with fail
            refine (last_any s _ hsz).mono ?_
            rintro e w3 ⟨r, rfl, hnd, rfl⟩
            by_cases he : r.size = s.size
            · have HD := Lib.hid (hnd he)
              have hne1 : ((r.size : Int) != (s.size : Int)) = false := by simp [he]
              have hne2 : (r.size != s.size) = false := by simp [he]
              clear hnd he
              have hps := hS.out.size
              by_cases h0 : pack.size = 0
              · obtain ⟨hw, hv⟩ := hS.out.none_ h0
                have HF := Lib.hid (hS.out.first h0 hp0 hp50 HD.out hn20)
                have hpk : pack = ⟨#[]⟩ := ByteArray.size_eq_zero_iff.1 h0
                subst hpk
                subst hv
                clear h0 hw
                go_wp2_with fail
                go_roundw
                case rel => exact ⟨k + 1, _, _, by omega, by go_num, rfl, HF⟩
                case measure => simp [intOf]; omega
              · have hne : pack.toList ≠ [] := fun e => h0 ((toList_nil pack).1 e)
                have hb0 : (pack.toList == ([] : List UInt8)) = false := beq_eq_false_iff_ne.mpr hne
                have hb1 : (pack.toList != ([] : List UInt8)) = true := by simp [hne]
                have hb2 : pack.toList.isEmpty = false := by rw [List.isEmpty_eq_false_iff]; exact hne
                clear hne
                obtain ⟨g, cap, hv⟩ := hS.out.some_ h0
                have hlen := hS.out.len
                have hcells : ∀ j u, (want.map Value.string)[j]? = some u → (wr.alloc (.cells #[.string (pack ++ ⟨#[46]⟩ ++ s)] 9)).cell? ((⟨g, 0, none⟩ : Addr).add j) = some u := fun j u hu => (hS.out.own.alloc _).cells (by rw [hv]; rfl) j u hu
                have HH := Lib.hid h0
                clear h0
                subst hv
                go_wp2_with (at_builtin; refine wpList_append_own _ rfl (.tmp 40) (.tmp 41) 22 rfl w.heap.size 9 i0 (.string ⟨#[]⟩) 1 16 Try.underlying22 hi hz0 hz1 hz2 rfl (by decide) _ 1 _ rfl (World.ownsRow_lit wr #[.string (pack ++ ⟨#[46]⟩ ++ s)] 1 hS.out.bel.size (by decide) rfl) ⟨g, 0, none⟩ want.length cap (want.map Value.string) rfl (by simp) hcells ?one ?b1 ?b2 ?b3 ?_)
                case one => intro u hu; obtain ⟨x, _, rfl⟩ := List.mem_map.1 hu; rfl
                case b1 => unfold maxLen; omega
                case b2 => omega
                case b3 => have := hS.out.bel.size; simp; omega
                intro v' w1 hown hgrow _
                have HF := Lib.hid (hS.out.next HH.out hp50 HD.out hn20 hown hgrow)
                clear hown hgrow hcells
                go_wp2_with fail
                go_roundw
                case rel => exact ⟨k + 1, _, _, by omega, by go_num, rfl, HF⟩
                case measure => simp [intOf]; omega
            · have hne1 : ((r.size : Int) != (s.size : Int)) = true := by
                rw [bne_iff_ne]; omega
              have hne2 : (r.size != s.size) = true := by simp [he]
              clear hnd he
              go_wp2_with fail
              go_ret
              exact ⟨rfl, hS.out.bel⟩
      · obtain rfl : k = n := by omega
        have hps : pack.size ≤ 2147483647 := by
          have h1 := hS.out.size
          by_cases hk0 : k = 0
          · omega
          · have := hS.out.few (by omega); omega
        have hln : want.length ≤ 2147483646 := by
          have h1 := hS.out.len
          by_cases hk0 : k = 0
          · omega
          · have := hS.out.few (by omega); omega
        have HPE := Lib.hid hS.out.inv.pre_eq
        go_wp2_with fail
        refine (prefixes8_any pack _ hps).mono ?_
        rintro e w2 ⟨g, cap, rfl, hg1, hg2, hrd, hb2⟩
        have hpl : (pre pack).length = want.length + 1 := by rw [HPE.out]; simp
        rw [hpl]
        have HO := Lib.hid ((own_below hS.out.own hb2).alloc (.cells #[.string ⟨#[]⟩] 9))
        have HRD := Lib.hid (hrd.below ((Below.refl _ w2).alloc (Nat.le_refl _) (.cells #[.string ⟨#[]⟩] 9)))
        have HB : Hid (Below w.heap.size w (w2.alloc (.cells #[.string ⟨#[]⟩] 9))) := Lib.hid ((hS.out.bel.trans (hb2.mono hS.out.bel.size)).alloc (Nat.le_trans hS.out.bel.size hb2.size) _)
        have hfar : ∀ b, u4.ownBlock = some b → b ≠ g := fun b hb e => by have := (hS.out.own.lt b hb).2; omega
        have HG := Lib.hid hfar
        have hlit : (w2.alloc (.cells #[.string ⟨#[]⟩] 9)).ownsRow w2.heap.size 9 1 (.slice (some ⟨w2.heap.size, 0, none⟩) 1 1) 1 [Value.string ⟨#[]⟩] := World.ownsRow_lit w2 #[.string ⟨#[]⟩] 1 (Nat.le_refl _) (by decide) rfl
        have hcell1 : ∀ j u, [Value.string ⟨#[]⟩][j]? = some u → (w2.alloc (.cells #[.string ⟨#[]⟩] 9)).cell? ((⟨w2.heap.size, 0, none⟩ : Addr).add j) = some u := fun j u hu => hlit.cells rfl j u hu
        clear hrd hb2 hfar hpl hlit
        go_wp2_with (at_builtin; refine wpList_append_own _ rfl (.tmp 46) (.tmp 47) 22 rfl w.heap.size 9 i0 (.string ⟨#[]⟩) 1 16 Try.underlying22 hi hz0 hz1 hz2 rfl (by decide) _ want.length _ rfl HO.out ⟨w2.heap.size, 0, none⟩ 1 1 [.string ⟨#[]⟩] rfl rfl hcell1 ?one ?b1 ?b2 ?b3 ?_)
        case one => intro u hu; cases List.mem_singleton.1 hu; rfl
        case b1 => unfold maxLen; omega
        case b2 => omega
        case b3 => exact HB.out.size
        intro v' w4 hown hgrow _
        obtain ⟨g2, cap2, hv2⟩ := own_some hown (by omega)
        subst hv2
        have hmap : want.map Value.string ++ [Value.string ⟨#[]⟩] = (pre pack).map Value.string := by rw [HPE.out, List.map_append]; rfl
        rw [hmap] at hown
        have HA := Lib.hid (Rd.grown HRD.out hgrow (fun e => HG.out g e.symm rfl))
        have HC := Lib.hid (own_rd hown)
        have HB4 := Lib.hid (HB.out.grown hgrow HB.out.size (fun b hb => (HO.out.lt b hb).1))
        have hpl : Hid ((pre pack).length = want.length + 1) := Lib.hid (by rw [HPE.out]; simp)
        clear hown hgrow hmap hcell1
        go_wp2_with fail
        refine (same_any _ _ _ _ _ (pre pack) _ hpl.out (by omega) HA.out HC.out).mono ?_
        rintro e w5 ⟨rfl, hb5⟩
        go_wp2_with fail
        go_ret
        exact ⟨rfl, HB4.out.trans (hb5.mono HB4.out.size)⟩
end Go.Proofs.Ytnclklfhjbkjhaa.Walk
