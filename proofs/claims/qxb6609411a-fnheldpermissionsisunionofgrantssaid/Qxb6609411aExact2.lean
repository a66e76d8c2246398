import Derived.Test.Qxb6609411aExact
namespace Go.Proofs.Qxb6609411a
open Go.RowKit Go.Maps Go.WideMaps Go.WideElems

set_option maxHeartbeats 2000000 in
set_option maxRecDepth 20000 in
theorem exact_any (N n sb gb nn : Nat) (Lg : List PP) (a1 a2 a3 : Option Addr) (c1 c2 c3 : Nat) (z1 : List Int) (z2 z3 : List ByteArray) (w : World) (hn : n ≤ 4096) (hS : SetP w gb nn Lg) (hL : ∀ p, p ∈ Lg ↔ ∃ i, i < n ∧ gP z2 z3 i = p) (hB : Bools w sb N (fun _ => true)) (h1 : IRow w a1 n z1) (h2 : SRow w a2 n z2) (h3 : SRow w a3 n z3)
    (hro : ∀ (i : Nat), i < n → 0 ≤ z1.getD i 0 ∧ z1.getD i 0 < N) :
    Calls Try.prog 30 #[.map (some gb), .slice (some ⟨sb, 0, none⟩) N N, .slice a1 n c1, .slice a2 n c2, .slice a3 n c3] w fun e w' => e = .returned (.bool true) ∧ Below w.heap.size w w' := by
  have H1 := hide h1
  have H2 := hide h2
  have H3 := hide h3
  have HRO := hide hro
  have HB := hide hB
  have HL := hide hL
  have HS := hide hS
  clear h1 h2 h3 hro hB hL hS
  go_enter Try.func30, Try.ntmps30
  go_wp2_with fail
  go_loopw [11, 12, 13] (fun vi _ _ wr => ∃ (i : Nat), i ≤ n ∧ vi = .int .i64 i ∧ Below w.heap.size w wr) (fun vi _ _ _ => n - (intOf vi).toNat)
  case atStart => exact ⟨0, Nat.zero_le _, rfl, Below.refl _ _⟩
  case round =>
    obtain ⟨i, hi, rfl, hbe⟩ := hrel
    by_cases hlt : i < n
    · rcases H1.out with J1 | ⟨b1, o1, rfl, hb1w, hc1⟩
      · omega
      rcases H2.out.2 with J2 | ⟨b2, o2, rfl, hb2w, hc2⟩
      · omega
      rcases H3.out.2 with J3 | ⟨b3, o3, rfl, hb3w, hc3⟩
      · omega
      have hgi := HRO.out i hlt
      have c1 : wr.cell? ⟨b1, o1 + i, none⟩ = _ := (hbe.cell (p := ⟨b1, o1 + i, none⟩) hb1w).trans (hc1 i hlt)
      obtain ⟨x, hxe⟩ : ∃ x : Nat, z1.getD i 0 = (x : Int) := ⟨(z1.getD i 0).toNat, (Int.toNat_of_nonneg hgi.1).symm⟩
      rw [hxe] at c1
      have hxN : x < N := by omega
      have cx := (HB.out.below hbe).cell hxN
      have s1 : wr.cell? ⟨b2, o2 + i, none⟩ = _ := (hbe.cell (p := ⟨b2, o2 + i, none⟩) hb2w).trans (hc2 i hlt)
      have t1 : wr.cell? ⟨b3, o3 + i, none⟩ = _ := (hbe.cell (p := ⟨b3, o3 + i, none⟩) hb3w).trans (hc3 i hlt)
      have hok : OkP (gP z2 z3 i) := ⟨H2.out.1 i hlt, H3.out.1 i hlt⟩
      have hin : gP z2 z3 i ∈ Lg := (HL.out _).2 ⟨i, hlt, rfl⟩
      have hSr := HS.out.kept (hbe.block _ HS.out.lt)
      have hl1 : (Instr.lookup 48 (.map (some gb)) (.agg #[.string (z2.getD i ⟨#[]⟩), .string (z3.getD i ⟨#[]⟩)]) true).run Try.prog wr.drew = .ok (.tuple #[.agg #[], .bool true]) wr.drew := by
        have h := (hSr.kept (w' := wr.drew) rfl).look hok
        rw [decide_eq_true hin] at h
        exact h
      have hl2 : (Instr.lookup 48 (.map (some gb)) (.agg #[.string (z2.getD i ⟨#[]⟩), .string (z3.getD i ⟨#[]⟩)]) true).run Try.prog ((wr.alloc (.cells #[] 32)).drew) = .ok (.tuple #[.agg #[], .bool true]) ((wr.alloc (.cells #[] 32)).drew) := by
        have h := (hSr.kept (w' := (wr.alloc (.cells #[] 32)).drew) (Below.heap_alloc _ _ _ hSr.lt)).look hok
        rw [decide_eq_true hin] at h
        exact h
      clear hc1 hc2 hc3 hgi hSr hin hok
      generalize z2.getD i ⟨#[]⟩ = si at *
      generalize z3.getD i ⟨#[]⟩ = ti at *
      have hbz := hbe.size
      have hb2r : b2 < wr.heap.size := by omega
      have hb3r : b3 < wr.heap.size := by omega
      have HBE := hide hbe
      clear hbe
      have h0 : (0 : Int) ≤ (i : Int) := Int.natCast_nonneg i
      have h1 : (i : Int) < (n : Int) := by omega
      have h2 : (0 : Int) ≤ (x : Int) := Int.natCast_nonneg x
      have h3 : (x : Int) < (N : Int) := by omega
      have n2 : ¬ (b2 = wr.heap.size) := by omega
      have n3 : ¬ (b3 = wr.heap.size) := by omega
      have s2 : (wr.alloc (.cells #[] 32)).cell? ⟨b2, o2 + i, none⟩ = some (.string si) := (((Below.refl wr.heap.size wr).alloc (Nat.le_refl _) (.cells #[] 32)).cell (p := ⟨b2, o2 + i, none⟩) hb2r).trans s1
      have t2 : (wr.alloc (.cells #[] 32)).cell? ⟨b3, o3 + i, none⟩ = some (.string ti) := (((Below.refl wr.heap.size wr).alloc (Nat.le_refl _) (.cells #[] 32)).cell (p := ⟨b3, o3 + i, none⟩) hb3r).trans t1
      go_upto_region 5 with fail
      go_region_held3 (fun w' => w'.cell? ⟨b2, o2 + i, none⟩ = some (.string si) ∧ w'.cell? ⟨b3, o3 + i, none⟩ = some (.string ti)) (first | (exact ⟨by assumption, by assumption⟩) | go_keep) (fail)
      all_goals
        go_wp2
        refine ⟨⟨i + 1, by omega, by rfl, (HBE.out.alloc hbz _).drew⟩, ?_⟩
        simp only [intOf]
        omega
    · have hin : i = n := by omega
      subst hin
      obtain ⟨D, hown, hsz, hnd, _⟩ := HS.out.kept (hbe.block _ HS.out.lt)
      have hlenE : Maps.size D = (dT (gP z2 z3) i).length := hsz.trans (dT_all hnd HL.out)
      have HBE := hide hbe
      clear hbe
      go_upto_region 8 with fail
      go_wp2_with (first | (at_len; refine wpList_len_own _ rfl _ 48 rfl 45 32 Try.underlying48 _ gb nn D rfl hown ?_; rw [hlenE]) | fail)
      refine (distinct_any N i sb a1 a2 a3 c1 c2 c3 z1 z2 z3 wr hn (HB.out.below HBE.out) (H1.out.below HBE.out) (H2.out.below HBE.out) (H3.out.below HBE.out) HRO.out).mono ?_
      rintro e w2 ⟨rfl, hb2⟩
      have HB2 := hide (HBE.out.trans (hb2.mono HBE.out.size))
      clear hb2
      go_wp2
      go_ret
      exact ⟨rfl, HB2.out⟩
end Go.Proofs.Qxb6609411a
