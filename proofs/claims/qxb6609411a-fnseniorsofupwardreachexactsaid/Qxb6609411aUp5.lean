import Derived.Test.Qxb6609411aUps
namespace Go.Proofs.Qxb6609411a
open Go.RowKit Go.Maps Go.WideMaps Go.WideElems

theorem nodup_sub : ∀ (L M : List Nat), L.Nodup → (∀ v ∈ L, v ∈ M) → L.length ≤ M.length
  | [], _, _, _ => Nat.zero_le _
  | a :: L, M, hn, hs => by
    have hn' := List.nodup_cons.1 hn
    have ha : a ∈ M := hs a (List.mem_cons_self ..)
    have := nodup_sub L (M.erase a) hn'.2 (fun v hv => (List.mem_erase_of_ne (fun e => hn'.1 (by rw [← e]; exact hv))).2 (hs v (List.mem_cons_of_mem _ hv)))
    rw [List.length_erase_of_mem ha] at this
    have hp : 0 < M.length := List.length_pos_of_mem ha
    simp only [List.length_cons]
    omega

/-- How many of the first n are marked. -/
def cntT (S : Nat → Bool) (n : Nat) : Nat := ((List.range n).filter S).length
theorem cntT_succ (S : Nat → Bool) (n : Nat) : cntT S (n + 1) = cntT S n + (if S n then 1 else 0) := by
  unfold cntT
  rw [List.range_succ, List.filter_append, List.length_append]
  cases h : S n <;> simp [h]
theorem cntT_le (S : Nat → Bool) (n : Nat) : cntT S n ≤ n := by
  unfold cntT
  exact Nat.le_trans (List.length_filter_le _ _) (by rw [List.length_range]; exact Nat.le_refl _)
theorem cntT_all {S : Nat → Bool} {n : Nat} {L : List Nat} (hn : L.Nodup) (h : ∀ v, v ∈ L ↔ v < n ∧ S v = true) : L.length = cntT S n := by
  refine Nat.le_antisymm (nodup_sub L _ hn (fun v hv => ?_)) (nodup_sub _ L (List.nodup_range.filter _) (fun v hv => ?_))
  · rw [List.mem_filter, List.mem_range]
    exact (h v).1 hv
  · rw [List.mem_filter, List.mem_range] at hv
    exact (h v).2 hv

set_option maxHeartbeats 4000000 in
set_option maxRecDepth 20000 in
theorem up_walk (x0 x3 : Int) (a1 a2 : Option Addr) (n1 n2 c1 c2 : Nat) (z1 z2 : List Int) (w : World) (h1 : IRow w a1 n1 z1) (h2 : IRow w a2 n2 z2) :
    Calls Try.prog 5 #[.int .i64 x0, .slice a1 n1 c1, .slice a2 n2 c2, .int .i64 x3] w fun e w' => e = .returned (.bool true) ∧ Below w.heap.size w w' := by
  have hmm := @run_makeMap Try.prog
  have H1 := hide h1
  have H2 := hide h2
  clear h1 h2
  go_enter Try.func5, Try.ntmps5
  go_wp2_with fail
  refine (bytes12 x0 x3 a1 a2 n1 n2 c1 c2 w).mono ?_
  rintro e _ ⟨rfl | rfl, rfl⟩
  rotate_left
  · go_wp2_with fail
    go_ret
    exact ⟨rfl, Below.refl _ _⟩
  go_upto_region 3 with fail
  by_cases g1 : (4096 : Int) < (n1 : Int)
  · go_wp2_with fail
    go_ret
    exact ⟨rfl, Below.refl _ _⟩
  by_cases g2 : (4096 : Int) < (n2 : Int)
  · go_wp2_with fail
    go_ret
    exact ⟨rfl, Below.refl _ _⟩
  have hw1 : IntKind.i64.wrap ((n1 : Int) + (n2 : Int)) = (n1 : Int) + (n2 : Int) := by rw [IntKind.wrap_i64]; omega
  have hw2 : IntKind.i64.wrap (8 * ((n1 : Int) + (n2 : Int))) = 8 * ((n1 : Int) + (n2 : Int)) := by rw [IntKind.wrap_i64]; omega
  have g3 : ¬ (1048576 : Int) < 8 * ((n1 : Int) + (n2 : Int)) := by omega
  go_upto_region 7 with fail
  by_cases g4 : x0 < 1
  · go_wp2_with fail
    go_ret
    exact ⟨rfl, Below.refl _ _⟩
  by_cases g5 : 4096 < x0
  · go_wp2_with fail
    go_ret
    exact ⟨rfl, Below.refl _ _⟩
  by_cases g6 : x3 < 0
  · go_wp2_with fail
    go_ret
    exact ⟨rfl, Below.refl _ _⟩
  by_cases g7 : x0 ≤ x3
  · go_wp2_with fail
    go_ret
    exact ⟨rfl, Below.refl _ _⟩
  obtain ⟨N, rfl⟩ := Int.eq_ofNat_of_zero_le (show 0 ≤ x0 by omega)
  obtain ⟨a, rfl⟩ := Int.eq_ofNat_of_zero_le (show 0 ≤ x3 by omega)
  go_wp2_with fail
  refine (edges_any N a1 a2 n1 n2 c1 c2 z1 z2 w H1.out H2.out (by omega)).mono ?_
  rintro e w1 ⟨⟨rfl, rfl, hG⟩ | rfl, hB1⟩
  rotate_left
  · go_wp2_with fail
    go_ret
    exact ⟨rfl, hB1⟩
  have hI1 := ints_of (H1.out.below hB1) (fun i hi => (hG i hi).1)
  have hI2 := ints_of (H2.out.below hB1) (fun i hi => by have := hG i hi; omega)
  have hlo : ∀ (i : Nat) x, (natsOf n1 z1)[i]? = some x → x < N := fun i x hx => by
    obtain ⟨hi, rfl⟩ := natsOf_some hx
    have := hG i hi
    omega
  have hhi : ∀ (i : Nat) x, (natsOf n1 z2)[i]? = some x → x < N := fun i x hx => by
    obtain ⟨hi, rfl⟩ := natsOf_some hx
    have := hG i hi
    omega
  have hba := build_any N a1 a2 c1 c2 (natsOf n1 z1) (natsOf n1 z2) w1 (by omega) hI1 hI2 (by rw [natsOf_length]; omega) (by rw [natsOf_length, natsOf_length]) hlo hhi
  simp only [natsOf_length] at hba
  have HG := hide hG
  have HI1 := hide hI1
  have HI2 := hide hI2
  have HLO := hide hlo
  have HHI := hide hhi
  have HB1 := hide hB1
  have HBA := hide hba
  clear hG hlo hhi hB1 hI1 hI2 hba
  go_wp2_with fail
  refine HBA.out.mono ?_
  rintro e w2 ⟨pb, rb, β, rfl, hBP, hB2⟩
  have HBP := hide hBP
  have HB21 := hide hB2
  have HB2 := hide (HB1.out.trans (hB2.mono HB1.out.size))
  clear HBA hBP hB2
  go_wp2_with fail
  refine (role_any a (by omega) _).mono ?_
  rintro e w3 ⟨rfl, hB3⟩
  have hb3 : Below w2.heap.size w2 w3 := ((Below.refl _ w2).alloc (Nat.le_refl _) _).trans (hB3.mono (by simp))
  obtain ⟨D, hown, hsz, hnd, hlt, hhas, hkl⟩ := (setV_made w2).kept (hB3.block w2.heap.size (by simp))
  have HB3 := hide hb3
  have HH := hide hhas
  have HK := hide hkl
  clear hB3 hb3 hhas hkl
  go_wp2_with (first | (refine wpList_insert_own _ rfl _ _ _ 29 rfl 9 32 law9 Try.underlying29 _ w2.heap.size 0 _ rfl hown (by unfold maxLen; omega) _ _ _ rfl rfl (key_nm a) _ [] unitElem_mk ?_; intro w4 hown4 hgrow4) | fail)
  have hb4 : Below w2.heap.size w2 w4 := HB3.out.grown hgrow4 HB3.out.size (fun j e => by cases e; exact Nat.le_refl _)
  have hS4 : SetV w4 w2.heap.size 1 [a] := setV_put (by omega) hown hsz hnd hlt HH.out HK.out _ hown4
  have hBP4 := HBP.out.below hb4
  have hpu := hBP4.polUp (by rw [natsOf_length]; exact Nat.le_refl _) HHI.out
  refine (up_any pb rb N N w2.heap.size 1 _ _ _ [a] w4 (by omega) hpu hS4 (fun v hv => by rw [List.mem_singleton.1 hv]; omega)).mono ?_
  rintro e w5 ⟨gu, Lu, nu, rfl, hgu, hSu, hLu, hB5⟩
  have HB15 := hide (HB21.out.trans ((hb4.trans (hB5.mono hb4.size)).mono HB21.out.size))
  have HB5 := hide ((HB2.out.trans (hb4.mono HB2.out.size)).trans (hB5.mono (Nat.le_trans HB2.out.size hb4.size)))
  have HBP5 := hide (hBP4.below hB5)
  have HSU := hide hSu
  have HLU := hide hLu
  clear HBP HB1 HB21 HB2 HB3 HH HK hown hsz hnd hlt hown4 hgrow4 hb4 hS4 hBP4 hpu hgu hSu hLu hB5
  have hJ1 := HI1.out.below HB15.out rfl
  have hJ2 := HI2.out.below HB15.out rfl
  have hua := ups_any N a a1 a2 c1 c2 (natsOf n1 z1) (natsOf n1 z2) w5 (by omega) (by omega) hJ1 hJ2 (by rw [natsOf_length]; omega) (by rw [natsOf_length, natsOf_length]) HLO.out HHI.out
  simp only [natsOf_length] at hua
  have HUA := hide hua
  clear hua hJ1 hJ2 HI1 HI2 HB15
  go_wp2_with fail
  refine HUA.out.mono ?_
  rintro e w6 ⟨sb, S, rfl, hBo, hSr, hB6⟩
  have hSu6 := HSU.out.kept (hB6.block _ HSU.out.lt)
  have hin : ∀ v, v ∈ Lu → v < N := fun v hv => (HLU.out v).1 hv (fun v => v < N) (fun u hu => by rw [List.mem_singleton.1 hu]; omega) (fun u hu x hx => HBP5.out.polUp (by rw [natsOf_length]; exact Nat.le_refl _) HHI.out |>.closed u hu x hx)
  have hmem : ∀ v, v ∈ Lu ↔ v < N ∧ S v = true := fun v => ⟨fun hv => ⟨hin v hv, (hSr v (hin v hv)).2 ((HLU.out v).1 hv)⟩, fun ⟨h1, h2⟩ => (HLU.out v).2 ((hSr v h1).1 h2)⟩
  have HMEM := hide hmem
  have HS6 := hide hSu6
  have HBO := hide hBo
  have HB6 := hide (HB5.out.trans (hB6.mono HB5.out.size))
  clear HUA HSU HB5 HBP5 hBo hSr hB6 hSu6 hin hmem
  go_wp2_with fail
  go_loopw [12, 13, 14, 15] (fun vc vi _ _ wr => ∃ (j : Nat), j ≤ N ∧ vc = .int .i64 (cntT S j : Int) ∧ vi = .int .i64 j ∧ SetV wr gu nu Lu ∧ Bools wr sb N S ∧ Below w.heap.size w wr) (fun _ vi _ _ _ => N - (intOf vi).toNat)
  case atStart => exact ⟨0, Nat.zero_le _, rfl, rfl, HS6.out, HBO.out, HB6.out⟩
  case round =>
    clear HS6 HBO HB6
    obtain ⟨j, hj, rfl, rfl, hS, hBo, hbe⟩ := hrel
    by_cases hlt : j < N
    · have HS := hide hS
      have HBO := hide hBo
      have HBE := hide hbe
      clear hS hBo hbe
      have h0 : (0 : Int) ≤ (j : Int) := Int.natCast_nonneg j
      have h1 : (j : Int) < (N : Int) := by omega
      have hct := cntT_succ S j
      have hcl := cntT_le S j
      have hwr : IntKind.i64.wrap ((cntT S j : Int) + 1) = (cntT S j : Int) + 1 := by rw [IntKind.wrap_i64]; omega
      go_wp2_with fail
      refine (role_any j (by omega) _).mono ?_
      rintro e w7 ⟨rfl, hB7⟩
      have HS7 := hide (HS.out.kept (hB7.block _ HS.out.lt))
      have HBO7 := hide (HBO.out.below hB7)
      have HB7 := hide (HBE.out.trans (hB7.mono HBE.out.size))
      have hl := HS7.out.look2 (show j < 4096 by omega)
      have hde : decide (j ∈ Lu) = S j := by
        cases hSj : S j with
        | true => exact decide_eq_true ((HMEM.out j).2 ⟨hlt, hSj⟩)
        | false => exact decide_eq_false (fun hm => by rw [((HMEM.out j).1 hm).2] at hSj; cases hSj)
      rw [hde] at hl
      have hcb := HBO7.out.cell hlt
      have hcb2 : (w7.alloc (.cells #[] 32)).cell? ⟨sb, j, none⟩ = some (.bool (S j)) := World.rowIs.cell (World.rowIs.alloc HBO7.out _) hlt
      have hsl : sb < w7.heap.size := World.rowIs.lt HBO7.out
      have hsn : ¬ (sb = w7.heap.size) := by omega
      clear hB7 hde HS HBO HBE
      cases hSj : S j with
      | true =>
        rw [hSj] at hl hcb hcb2 hct
        have hct2 : (cntT S (j + 1) : Int) = (cntT S j : Int) + 1 := by rw [hct]; simp
        go_wp2
        refine ⟨⟨j + 1, by omega, by rw [hct2], by rfl, HS7.out.kept (Below.heap_alloc _ _ _ HS7.out.lt), World.rowIs.alloc HBO7.out _, HB7.out.alloc HB7.out.size _⟩, ?_⟩
        simp only [intOf]
        omega
      | false =>
        rw [hSj] at hl hcb hcb2 hct
        have hct2 : (cntT S (j + 1) : Int) = (cntT S j : Int) := by rw [hct]; simp
        go_wp2
        refine ⟨⟨j + 1, by omega, by rw [hct2], by rfl, HS7.out.kept (Below.heap_alloc _ _ _ HS7.out.lt), World.rowIs.alloc HBO7.out _, HB7.out.alloc HB7.out.size _⟩, ?_⟩
        simp only [intOf]
        omega
    · have hjN : j = N := by omega
      subst hjN
      obtain ⟨D, hown, hsz, hnd, _⟩ := hS
      have hlenE : Maps.size D = cntT S j := hsz.trans (cntT_all hnd HMEM.out)
      have HBE := hide hbe
      clear hbe hBo
      go_wp2_with (first | (at_len; refine wpList_len_own _ rfl _ 29 rfl 9 32 Try.underlying29 _ gu nu D rfl hown ?_; rw [hlenE]) | go_in)
      go_ret
      exact ⟨rfl, HBE.out⟩
end Go.Proofs.Qxb6609411a
