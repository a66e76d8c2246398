import Derived.Test.Qxb6609411aGraph
namespace Go.Proofs.Qxb6609411a
open Go.RowKit Go.Maps Go.WideMaps Go.WideElems

/-- The edges' ends, as indices. -/
def natsOf (n : Nat) (z : List Int) : List Nat := (List.range n).map fun i => (z.getD i 0).toNat
theorem natsOf_length (n : Nat) (z : List Int) : (natsOf n z).length = n := by simp [natsOf]
theorem natsOf_at {n : Nat} {z : List Int} {i : Nat} (h : i < n) : (natsOf n z)[i]? = some (z.getD i 0).toNat := by simp [natsOf, h]
theorem natsOf_some {n : Nat} {z : List Int} {i x : Nat} (h : (natsOf n z)[i]? = some x) : i < n ∧ x = (z.getD i 0).toNat := by
  have hi : i < n := by
    have := (List.getElem?_eq_some_iff.1 h).1
    rwa [natsOf_length] at this
  rw [natsOf_at hi] at h
  exact ⟨hi, by cases h; rfl⟩
theorem natsOf_getD {n : Nat} {z : List Int} {i : Nat} (h : i < n) : (natsOf n z).getD i 0 = (z.getD i 0).toNat := by
  rw [List.getD_eq_getElem?_getD, natsOf_at h]; rfl

theorem ints_of {w : World} {a : Option Addr} {n : Nat} {z : List Int} (h : IRow w a n z) (hg : ∀ (i : Nat), i < n → 0 ≤ z.getD i 0) : IntsN w a (natsOf n z) := by
  rcases h with h | ⟨b, o, ha, hb, hc⟩
  · subst h; exact .inl rfl
  · refine .inr ⟨b, o, ha, hb, fun i x hx => ?_⟩
    obtain ⟨hi, rfl⟩ := natsOf_some hx
    rw [hc i hi, Int.toNat_of_nonneg (hg i hi)]

theorem IRow.below {w w' : World} {a : Option Addr} {n : Nat} {z : List Int} (h : IRow w a n z) (hb : Below w.heap.size w w') : IRow w' a n z := by
  rcases h with h | ⟨b, o, ha, hlt, hc⟩
  · exact .inl h
  · exact .inr ⟨b, o, ha, Nat.lt_of_lt_of_le hlt hb.size, fun i hi => by rw [hb.cell (p := ⟨b, o + i, none⟩) hlt]; exact hc i hi⟩

theorem SetV.look2 {w : World} {b n : Nat} {L : List Nat} (h : SetV w b n L) {v : Nat} (hv : v < 4096) : (Instr.lookup 29 (.map (some b)) (.string (nm v)) true).run Try.prog w = .ok (.tuple #[.agg #[], .bool (decide (v ∈ L))]) w := by
  obtain ⟨D, h1, _, _, _, h2, _⟩ := h
  obtain ⟨x, ps, hrun, hx⟩ := h1.look_ok law9 Try.underlying29 (z := .agg #[]) (by kernel_rfl) (zd := .agg []) (zp := []) unitElem_mk (key_nm v)
  obtain ⟨rfl, _⟩ := unitElem_inv hx
  rw [hrun, h2 v hv]

set_option maxHeartbeats 4000000 in
set_option maxRecDepth 20000 in
theorem dual_walk (x0 x3 x4 : Int) (a1 a2 : Option Addr) (n1 n2 c1 c2 : Nat) (z1 z2 : List Int) (w : World) (h1 : IRow w a1 n1 z1) (h2 : IRow w a2 n2 z2) :
    Calls Try.prog 6 #[.int .i64 x0, .slice a1 n1 c1, .slice a2 n2 c2, .int .i64 x3, .int .i64 x4] w fun e w' => e = .returned (.bool true) ∧ Below w.heap.size w w' := by
  have hmm := @run_makeMap Try.prog
  have H1 := hide h1
  have H2 := hide h2
  clear h1 h2
  go_enter Try.func6, Try.ntmps6
  go_wp2_with fail
  refine (bytes18 x0 x3 x4 a1 a2 n1 n2 c1 c2 w).mono ?_
  rintro e _ ⟨rfl | rfl, rfl⟩
  rotate_left
  · go_wp2_with fail
    go_ret
    exact ⟨rfl, Below.refl _ _⟩
  go_upto_region 3 with fail
  by_cases g1 : (4096 : Int) < (n1 : Int)
  · go_wp2_with fail
    go_ret
    exact ⟨rfl, Below.refl _ _⟩
  by_cases g2 : (4096 : Int) < (n2 : Int)
  · go_wp2_with fail
    go_ret
    exact ⟨rfl, Below.refl _ _⟩
  have hw1 : IntKind.i64.wrap ((n1 : Int) + (n2 : Int)) = (n1 : Int) + (n2 : Int) := by rw [IntKind.wrap_i64]; omega
  have hw2 : IntKind.i64.wrap (8 * ((n1 : Int) + (n2 : Int))) = 8 * ((n1 : Int) + (n2 : Int)) := by rw [IntKind.wrap_i64]; omega
  have g3 : ¬ (1048576 : Int) < 8 * ((n1 : Int) + (n2 : Int)) := by omega
  go_upto_region 7 with fail
  by_cases g4 : x0 < 1
  · go_wp2_with fail
    go_ret
    exact ⟨rfl, Below.refl _ _⟩
  by_cases g5 : 4096 < x0
  · go_wp2_with fail
    go_ret
    exact ⟨rfl, Below.refl _ _⟩
  by_cases g6 : x3 < 0
  · go_wp2_with fail
    go_ret
    exact ⟨rfl, Below.refl _ _⟩
  by_cases g7 : x0 ≤ x3
  · go_wp2_with fail
    go_ret
    exact ⟨rfl, Below.refl _ _⟩
  by_cases g8 : x4 < 0
  · go_wp2_with fail
    go_ret
    exact ⟨rfl, Below.refl _ _⟩
  by_cases g9 : x0 ≤ x4
  · go_wp2_with fail
    go_ret
    exact ⟨rfl, Below.refl _ _⟩
  obtain ⟨N, rfl⟩ := Int.eq_ofNat_of_zero_le (show 0 ≤ x0 by omega)
  obtain ⟨a, rfl⟩ := Int.eq_ofNat_of_zero_le (show 0 ≤ x3 by omega)
  obtain ⟨b, rfl⟩ := Int.eq_ofNat_of_zero_le (show 0 ≤ x4 by omega)
  go_wp2_with fail
  refine (edges_any N a1 a2 n1 n2 c1 c2 z1 z2 w H1.out H2.out (by omega)).mono ?_
  rintro e w1 ⟨⟨rfl, rfl, hG⟩ | rfl, hB1⟩
  rotate_left
  · go_wp2_with fail
    go_ret
    exact ⟨rfl, hB1⟩
  have hI1 := ints_of (H1.out.below hB1) (fun i hi => (hG i hi).1)
  have hI2 := ints_of (H2.out.below hB1) (fun i hi => by have := hG i hi; omega)
  have hlo : ∀ (i : Nat) x, (natsOf n1 z1)[i]? = some x → x < N := fun i x hx => by
    obtain ⟨hi, rfl⟩ := natsOf_some hx
    have := hG i hi
    omega
  have hhi : ∀ (i : Nat) x, (natsOf n1 z2)[i]? = some x → x < N := fun i x hx => by
    obtain ⟨hi, rfl⟩ := natsOf_some hx
    have := hG i hi
    omega
  have hba := build_any N a1 a2 c1 c2 (natsOf n1 z1) (natsOf n1 z2) w1 (by omega) hI1 hI2 (by rw [natsOf_length]; omega) (by rw [natsOf_length, natsOf_length]) hlo hhi
  simp only [natsOf_length] at hba
  have HG := hide hG
  have HLO := hide hlo
  have HHI := hide hhi
  have HB1 := hide hB1
  have hpu := @BP.polUp
  have HBA := hide hba
  clear hG hlo hhi hB1 hI1 hI2 hba hpu
  go_wp2_with fail
  refine HBA.out.mono ?_
  rintro e w2 ⟨pb, rb, β, rfl, hBP, hB2⟩
  have HBP := hide hBP
  have HB2 := hide (HB1.out.trans (hB2.mono HB1.out.size))
  clear HBA hBP hB2
  go_wp2_with fail
  refine (role_any a (by omega) _).mono ?_
  rintro e w3 ⟨rfl, hB3⟩
  have hb3 : Below w2.heap.size w2 w3 := ((Below.refl _ w2).alloc (Nat.le_refl _) _).trans (hB3.mono (by simp))
  obtain ⟨D, hown, hsz, hnd, hlt, hhas, hkl⟩ := (setV_made w2).kept (hB3.block w2.heap.size (by simp))
  have HB3 := hide hb3
  have HH := hide hhas
  have HK := hide hkl
  clear hB3 hb3 hhas hkl
  go_wp2_with (first | (refine wpList_insert_own _ rfl _ _ _ 29 rfl 9 32 law9 Try.underlying29 _ w2.heap.size 0 _ rfl hown (by unfold maxLen; omega) _ _ _ rfl rfl (key_nm a) _ [] unitElem_mk ?_; intro w4 hown4 hgrow4) | fail)
  have hb4 : Below w2.heap.size w2 w4 := HB3.out.grown hgrow4 HB3.out.size (fun j e => by cases e; exact Nat.le_refl _)
  have hS4 : SetV w4 w2.heap.size 1 [a] := setV_put (by omega) hown hsz hnd hlt HH.out HK.out _ hown4
  have hBP4 := HBP.out.below hb4
  have hpu := hBP4.polUp (by rw [natsOf_length]; exact Nat.le_refl _) HHI.out
  refine (up_any pb rb N N w2.heap.size 1 _ _ _ [a] w4 (by omega) hpu hS4 (fun v hv => by rw [List.mem_singleton.1 hv]; omega)).mono ?_
  rintro e w5 ⟨gu, Lu, nu, rfl, hgu, hSu, hLu, hB5⟩
  have HB5 := hide ((HB2.out.trans (hb4.mono HB2.out.size)).trans (hB5.mono (Nat.le_trans HB2.out.size hb4.size)))
  have HBP5 := hide (hBP4.below hB5)
  have HSU := hide hSu
  have HLU := hide hLu
  clear HBP HB1 HB2 HB3 HH HK hown hsz hnd hlt hown4 hgrow4 hb4 hS4 hBP4 hpu hgu hSu hLu hB5
  go_wp2_with fail
  refine (role_any b (by omega) _).mono ?_
  rintro e w6 ⟨rfl, hB6⟩
  have hb6 : Below w5.heap.size w5 w6 := ((Below.refl _ w5).alloc (Nat.le_refl _) _).trans (hB6.mono (by simp))
  obtain ⟨D, hown, hsz, hnd, hlt, hhas, hkl⟩ := (setV_made w5).kept (hB6.block w5.heap.size (by simp))
  have HB6 := hide hb6
  have HH := hide hhas
  have HK := hide hkl
  clear hB6 hb6 hhas hkl
  go_wp2_with (first | (refine wpList_insert_own _ rfl _ _ _ 29 rfl 9 32 law9 Try.underlying29 _ w5.heap.size 0 _ rfl hown (by unfold maxLen; omega) _ _ _ rfl rfl (key_nm b) _ [] unitElem_mk ?_; intro w7 hown7 hgrow7) | fail)
  have hb7 : Below w5.heap.size w5 w7 := HB6.out.grown hgrow7 HB6.out.size (fun j e => by cases e; exact Nat.le_refl _)
  have hS7 : SetV w7 w5.heap.size 1 [b] := setV_put (by omega) hown hsz hnd hlt HH.out HK.out _ hown7
  have hBP7 := HBP5.out.below hb7
  have hpd := hBP7.polDown (by rw [natsOf_length]; exact Nat.le_refl _) HLO.out
  refine (down_any pb rb N N w5.heap.size 1 _ _ _ [b] w7 (by omega) hpd hS7 (fun v hv => by rw [List.mem_singleton.1 hv]; omega)).mono ?_
  rintro e w8 ⟨gd, Ld, nd, rfl, hgd, hSd, hLd, hB8⟩
  have hb58 : Below w5.heap.size w5 w8 := hb7.trans (hB8.mono hb7.size)
  have HB8 := hide (HB5.out.trans (hb58.mono HB5.out.size))
  have HSU8 := hide (HSU.out.kept (hb58.block _ HSU.out.lt))
  have HSD8 := hide hSd
  have HLD := hide hLd
  clear HBP5 HB5 HSU HB6 HH HK hown hsz hnd hlt hown7 hgrow7 hb7 hS7 hBP7 hpd hgd hSd hLd hB8 hb58
  obtain ⟨bb, hbu, hbd⟩ : ∃ bb, decide (b ∈ Lu) = bb ∧ decide (a ∈ Ld) = bb :=
    ⟨_, rfl, decide_eq_decide.2 ((HLD.out a).trans ((rch_dual _ _ _ a b).symm.trans (HLU.out b).symm))⟩
  have hau : decide (a ∈ Lu) = true := decide_eq_true ((HLU.out a).2 (Rch.self a _))
  go_wp2_with fail
  refine (role_any b (by omega) _).mono ?_
  rintro e w9 ⟨rfl, hB9⟩
  have HSU9 := hide (HSU8.out.kept (hB9.block _ HSU8.out.lt))
  have HSD9 := hide (HSD8.out.kept (hB9.block _ HSD8.out.lt))
  have HB9 := hide (HB8.out.trans (hB9.mono HB8.out.size))
  have hl1 := HSU9.out.look2 (show b < 4096 by omega)
  rw [hbu] at hl1
  clear hB9 HB8 HSU8 HSD8
  go_wp2_with fail
  refine (role_any a (by omega) _).mono ?_
  rintro e w10 ⟨rfl, hB10⟩
  have hb10 : Below w9.heap.size w9 w10 := ((Below.refl _ w9).alloc (Nat.le_refl _) _).trans (hB10.mono (by simp))
  have HSU10 := hide (HSU9.out.kept (hb10.block _ HSU9.out.lt))
  have HSD10 := hide (HSD9.out.kept (hb10.block _ HSD9.out.lt))
  have HB10 := hide (HB9.out.trans (hb10.mono HB9.out.size))
  have hl2 := HSD10.out.look2 (show a < 4096 by omega)
  rw [hbd] at hl2
  clear hB10 hb10 HB9 HSU9 HSD9 hl1
  go_upto_region 16 with fail
  have hbb : ∀ (Q : Prop), (bb = true → Q) → (bb = false → Q) → Q := fun Q h1 h2 => by cases bb; exact h2 rfl; exact h1 rfl
  go_cut [108] (fun c wx => c = .bool false ∧ wx = w10.alloc (.cells #[] 32))
  case first =>
    refine hbb _ (fun e => ?_) (fun e => ?_)
    · subst e
      go_wp2_with fail
      go_meet
      exact ⟨rfl, rfl⟩
    · subst e
      go_wp2_with fail
      go_meet
      exact ⟨rfl, rfl⟩
  case rest =>
    obtain ⟨rfl, rfl⟩ := hcut
    clear hl2
    go_wp2_with fail
    refine (role_any a (by omega) _).mono ?_
    rintro e w11 ⟨rfl, hB11⟩
    have hb11 : Below w10.heap.size w10 w11 := ((Below.refl _ w10).alloc (Nat.le_refl _) _).trans (hB11.mono (by simp))
    have HSU11 := hide (HSU10.out.kept (hb11.block _ HSU10.out.lt))
    have HB11 := hide (HB10.out.trans (hb11.mono HB10.out.size))
    have hl3 := HSU11.out.look2 (show a < 4096 by omega)
    rw [hau] at hl3
    clear hB11 hb11 HB10 HSU10 HSD10
    go_wp2_with fail
    have HSU12 : Hid (SetV (w11.alloc (.cells #[] 32)) gu nu Lu) := hide (HSU11.out.kept (Below.heap_alloc _ _ _ HSU11.out.lt))
    have HB12 : Hid (Below w.heap.size w (w11.alloc (.cells #[] 32))) := hide (HB11.out.alloc HB11.out.size _)
    clear hl3
    go_loopw [20, 21, 22] (fun vi _ _ wr => ∃ (j : Nat), j ≤ n1 ∧ vi = .int .i64 j ∧ SetV wr gu nu Lu ∧ Below w.heap.size w wr) (fun vi _ _ _ => n1 - (intOf vi).toNat)
    case atStart => exact ⟨0, Nat.zero_le _, rfl, HSU12.out, HB12.out⟩
    case round =>
      clear HSU11 HB11 HSU12 HB12
      obtain ⟨j, hj, rfl, hS, hbe⟩ := hrel
      have HS := hide hS
      have HBE := hide hbe
      clear hS hbe
      by_cases hlt : j < n1
      · rcases H1.out with J1 | ⟨b1, o1, rfl, hb1w, hc1⟩
        · omega
        rcases H2.out with J2 | ⟨b2, o2, rfl, hb2w, hc2⟩
        · omega
        have hgj := HG.out j hlt
        have hxn := natsOf_getD (z := z1) hlt
        have hyn := natsOf_getD (z := z2) hlt
        have hc1j := hc1 j hlt
        have hc2j := hc2 j hlt
        rw [← Int.toNat_of_nonneg (show 0 ≤ z1.getD j 0 by omega), ← hxn] at hc1j
        rw [← Int.toNat_of_nonneg (show 0 ≤ z2.getD j 0 by omega), ← hyn] at hc2j
        have c1 : wr.cell? ⟨b1, o1 + j, none⟩ = _ := (HBE.out.cell (p := ⟨b1, o1 + j, none⟩) hb1w).trans hc1j
        have c2 : wr.cell? ⟨b2, o2 + j, none⟩ = _ := (HBE.out.cell (p := ⟨b2, o2 + j, none⟩) hb2w).trans hc2j
        have hyN : (natsOf n1 z2).getD j 0 < N := by omega
        have hmem := mem_seT (natsOf n1 z1) (natsOf n1 z2) n1 ((natsOf n1 z2).getD j 0) a
        clear hc1 hc2 hc1j hc2j hxn hyn hgj
        generalize hxe : (natsOf n1 z1).getD j 0 = x at *
        generalize hye : (natsOf n1 z2).getD j 0 = y at *
        have h0 : (0 : Int) ≤ (j : Int) := Int.natCast_nonneg j
        have h1 : (j : Int) < (n1 : Int) := by omega
        by_cases hxa : x = a
        · subst hxa
          have hyu : decide (y ∈ Lu) = true := decide_eq_true ((HLU.out y).2 ((Rch.self _ _).next (hmem.2 ⟨j, hlt, hxe, hye⟩)))
          clear hmem
          go_wp2_with fail
          refine (role_any y (by omega) _).mono ?_
          rintro e w13 ⟨rfl, hB13⟩
          have HS13 := hide (HS.out.kept (hB13.block _ HS.out.lt))
          have HB13 := hide (HBE.out.trans (hB13.mono HBE.out.size))
          have hl4 := HS13.out.look2 (show y < 4096 by omega)
          rw [hyu] at hl4
          clear hB13 HS HBE
          go_wp2
          refine ⟨⟨j + 1, by omega, by rfl, HS13.out.kept (Below.heap_alloc _ _ _ HS13.out.lt), HB13.out.alloc HB13.out.size _⟩, ?_⟩
          simp only [intOf]
          omega
        · have hxa2 : ¬ ((x : Int) = (a : Int)) := by omega
          clear hmem
          go_wp2
          refine ⟨⟨j + 1, by omega, by rfl, HS.out, HBE.out⟩, ?_⟩
          simp only [intOf]
          omega
      · have hjN : j = n1 := by omega
        subst hjN
        go_wp2
        go_ret
        exact ⟨rfl, HBE.out⟩
end Go.Proofs.Qxb6609411a
