import Derived.Test.Qxb6609411aHeld
import Derived.Test.Qxb6609411aUps
namespace Go.Proofs.Qxb6609411a
open Go.RowKit Go.Maps Go.WideMaps Go.WideElems

/-- The distinct ones among the first k. -/
def dT (f : Nat → PP) : Nat → List PP
  | 0 => []
  | k + 1 => addP (dT f k) (f k)
theorem mem_dT (f : Nat → PP) (k : Nat) (p : PP) : p ∈ dT f k ↔ ∃ i, i < k ∧ f i = p := by
  induction k with
  | zero => exact ⟨fun h => absurd h (List.not_mem_nil), fun ⟨i, h, _⟩ => absurd h (Nat.not_lt_zero _)⟩
  | succ k ih =>
    show p ∈ addP (dT f k) (f k) ↔ _
    rw [mem_addP, ih]
    constructor
    · rintro (⟨i, h1, h2⟩ | h)
      · exact ⟨i, by omega, h2⟩
      · exact ⟨k, by omega, h.symm⟩
    · rintro ⟨i, h1, h2⟩
      by_cases hk : i = k
      · subst hk; exact .inr h2.symm
      · exact .inl ⟨i, by omega, h2⟩
theorem dT_nodup (f : Nat → PP) (k : Nat) : (dT f k).Nodup := by
  induction k with
  | zero => exact List.nodup_nil
  | succ k ih => exact addP_nodup ih
theorem dT_le (f : Nat → PP) (k : Nat) : (dT f k).length ≤ k := by
  induction k with
  | zero => exact Nat.le_refl _
  | succ k ih =>
    show (addP (dT f k) (f k)).length ≤ k + 1
    unfold addP
    split
    · omega
    · simp; omega
theorem dT_old {f : Nat → PP} {k : Nat} (h : ∃ m, m < k ∧ f m = f k) : (dT f (k + 1)).length = (dT f k).length := by
  show (addP (dT f k) (f k)).length = _
  unfold addP
  rw [if_pos ((mem_dT f k (f k)).2 h)]
theorem dT_new {f : Nat → PP} {k : Nat} (h : ∀ m, m < k → f m ≠ f k) : (dT f (k + 1)).length = (dT f k).length + 1 := by
  show (addP (dT f k) (f k)).length = _
  unfold addP
  rw [if_neg (fun hm => by obtain ⟨i, h1, h2⟩ := (mem_dT f k (f k)).1 hm; exact h i h1 h2)]
  simp
theorem dT_all {f : Nat → PP} {n : Nat} {L : List PP} (hn : L.Nodup) (h : ∀ p, p ∈ L ↔ ∃ i, i < n ∧ f i = p) : L.length = (dT f n).length :=
  Nat.le_antisymm (nodup_subL L _ hn (fun p hp => (mem_dT f n p).2 ((h p).1 hp))) (nodup_subL _ L (dT_nodup f n) (fun p hp => (h p).2 ((mem_dT f n p).1 hp)))

theorem str_ne {a b : ByteArray} (h : ¬ a = b) : (a.toList == b.toList) = false := by
  cases e : (a.toList == b.toList) with
  | false => rfl
  | true =>
    refine absurd ?_ h
    have h1 := eq_of_beq e
    rw [ByteArray.toList_eq, ByteArray.toList_eq] at h1
    exact ByteArray.ext (Array.toList_inj.1 h1)

/-- The grants, by the index. -/
def gP (z2 z3 : List ByteArray) (i : Nat) : PP := ⟨z2.getD i ⟨#[]⟩, z3.getD i ⟨#[]⟩⟩

set_option maxHeartbeats 2000000 in
set_option maxRecDepth 20000 in
theorem distinct_any (N n sb : Nat) (a1 a2 a3 : Option Addr) (c1 c2 c3 : Nat) (z1 : List Int) (z2 z3 : List ByteArray) (w : World) (hn : n ≤ 4096) (hB : Bools w sb N (fun _ => true)) (h1 : IRow w a1 n z1) (h2 : SRow w a2 n z2) (h3 : SRow w a3 n z3)
    (hro : ∀ (i : Nat), i < n → 0 ≤ z1.getD i 0 ∧ z1.getD i 0 < N) :
    Calls Try.prog 49 #[.slice (some ⟨sb, 0, none⟩) N N, .slice a1 n c1, .slice a2 n c2, .slice a3 n c3] w fun e w' => e = .returned (.int .i64 ((dT (gP z2 z3) n).length : Int)) ∧ Below w.heap.size w w' := by
  have H1 := hide h1
  have H2 := hide h2
  have H3 := hide h3
  have HRO := hide hro
  have HB := hide hB
  clear h1 h2 h3 hro hB
  go_enter Try.func49, Try.ntmps49
  go_wp2_with fail
  go_loopw [9, 10, 11, 12] (fun vc vi _ _ wr => ∃ (i : Nat), i ≤ n ∧ vc = .int .i64 ((dT (gP z2 z3) i).length : Int) ∧ vi = .int .i64 i ∧ Below w.heap.size w wr) (fun _ vi _ _ _ => n - (intOf vi).toNat)
  case atStart => exact ⟨0, Nat.zero_le _, rfl, rfl, Below.refl _ _⟩
  case round =>
    obtain ⟨i, hi, rfl, rfl, hbe⟩ := hrel
    have HBE := hide hbe
    clear hbe
    by_cases hlt : i < n
    · rcases H1.out with J1 | ⟨b1, o1, rfl, hb1w, hc1⟩
      · omega
      rcases H2.out.2 with J2 | ⟨b2, o2, rfl, hb2w, hc2⟩
      · omega
      rcases H3.out.2 with J3 | ⟨b3, o3, rfl, hb3w, hc3⟩
      · omega
      have HC1 := hide hc1
      have HC2 := hide hc2
      have HC3 := hide hc3
      clear hc1 hc2 hc3
      have hgi := HRO.out i hlt
      have c1 : wr.cell? ⟨b1, o1 + i, none⟩ = _ := (HBE.out.cell (p := ⟨b1, o1 + i, none⟩) hb1w).trans (HC1.out i hlt)
      have hxi : ∃ x : Nat, z1.getD i 0 = (x : Int) := ⟨(z1.getD i 0).toNat, (Int.toNat_of_nonneg hgi.1).symm⟩
      obtain ⟨x, hxe⟩ := hxi
      rw [hxe] at c1
      have hxN : x < N := by omega
      have cx := (HB.out.below HBE.out).cell hxN
      have h0 : (0 : Int) ≤ (i : Int) := Int.natCast_nonneg i
      have h1 : (i : Int) < (n : Int) := by omega
      have h2 : (0 : Int) ≤ (x : Int) := Int.natCast_nonneg x
      have h3 : (x : Int) < (N : Int) := by omega
      have hdl := dT_le (gP z2 z3) i
      have hwr : IntKind.i64.wrap (((dT (gP z2 z3) i).length : Int) + 1) = ((dT (gP z2 z3) i).length : Int) + 1 := by rw [IntKind.wrap_i64]; omega
      obtain ⟨W0, hW0⟩ : ∃ W0, W0 = wr := ⟨_, rfl⟩
      subst hW0
      go_wp2_with fail
      go_loopw [11, 12] (fun vf vj wr => ∃ (fb : Bool) (j : Nat), j ≤ i ∧ vf = .bool fb ∧ vj = .int .i64 j ∧ Below w.heap.size w wr ∧ (fb = true → ∀ m, m < j → gP z2 z3 m ≠ gP z2 z3 i) ∧ (fb = false → ∃ m, m < i ∧ gP z2 z3 m = gP z2 z3 i)) (fun _ vj _ => i - (intOf vj).toNat)
      case atStart => exact ⟨true, 0, Nat.zero_le _, rfl, rfl, HBE.out, fun _ m hm => absurd hm (Nat.not_lt_zero _), fun h => by cases h⟩
      case round =>
        obtain ⟨fb, j, hj, rfl, rfl, hbe2, hf1, hf2⟩ := hrel
        have HBE2 := hide hbe2
        have HF1 := hide hf1
        have HF2 := hide hf2
        clear hbe2 hf1 hf2 c1 cx
        by_cases hlt2 : j < i
        · have hgj := HRO.out j (by omega)
          have d1 : wr.cell? ⟨b1, o1 + j, none⟩ = _ := (HBE2.out.cell (p := ⟨b1, o1 + j, none⟩) hb1w).trans (HC1.out j (by omega))
          obtain ⟨y, hye⟩ : ∃ y : Nat, z1.getD j 0 = (y : Int) := ⟨(z1.getD j 0).toNat, (Int.toNat_of_nonneg hgj.1).symm⟩
          rw [hye] at d1
          have hyN : y < N := by omega
          have dy := (HB.out.below HBE2.out).cell hyN
          have s1 : wr.cell? ⟨b2, o2 + j, none⟩ = _ := (HBE2.out.cell (p := ⟨b2, o2 + j, none⟩) hb2w).trans (HC2.out j (by omega))
          have s2 : wr.cell? ⟨b2, o2 + i, none⟩ = _ := (HBE2.out.cell (p := ⟨b2, o2 + i, none⟩) hb2w).trans (HC2.out i (by omega))
          have t1 : wr.cell? ⟨b3, o3 + j, none⟩ = _ := (HBE2.out.cell (p := ⟨b3, o3 + j, none⟩) hb3w).trans (HC3.out j (by omega))
          have t2 : wr.cell? ⟨b3, o3 + i, none⟩ = _ := (HBE2.out.cell (p := ⟨b3, o3 + i, none⟩) hb3w).trans (HC3.out i (by omega))
          have hgP : ∀ m, gP z2 z3 m = ⟨z2.getD m ⟨#[]⟩, z3.getD m ⟨#[]⟩⟩ := fun _ => rfl
          have hEq : gP z2 z3 j = gP z2 z3 i ↔ z2.getD j ⟨#[]⟩ = z2.getD i ⟨#[]⟩ ∧ z3.getD j ⟨#[]⟩ = z3.getD i ⟨#[]⟩ := by
            rw [hgP, hgP, PP.mk.injEq]
          have HEQ := hide hEq
          clear hgP hEq
          generalize hs1 : z2.getD j ⟨#[]⟩ = sj at *
          generalize hs2 : z2.getD i ⟨#[]⟩ = si at *
          generalize ht1 : z3.getD j ⟨#[]⟩ = tj at *
          generalize ht2 : z3.getD i ⟨#[]⟩ = ti at *
          have k0 : (0 : Int) ≤ (j : Int) := Int.natCast_nonneg j
          have k1 : (j : Int) < (n : Int) := by omega
          have k2 : (0 : Int) ≤ (y : Int) := Int.natCast_nonneg y
          have k3 : (y : Int) < (N : Int) := by omega
          have k4 : (j : Int) < (i : Int) := by omega
          by_cases e1 : sj = si
          · subst e1
            by_cases e2 : tj = ti
            · subst e2
              have hold : ∃ m, m < i ∧ gP z2 z3 m = gP z2 z3 i := ⟨j, hlt2, HEQ.out.2 ⟨rfl, rfl⟩⟩
              have HOLD := hide hold
              clear hold
              go_upto_region 10 with fail
              go_quiet (fail)
              go_wp2
              have hct2 : ((dT (gP z2 z3) (i + 1)).length : Int) = ((dT (gP z2 z3) i).length : Int) := by rw [dT_old HOLD.out]
              refine ⟨⟨i + 1, by omega, by rw [hct2], by rfl, below_drewN HBE2.out _⟩, ?_⟩
              simp only [intOf]
              omega
            · have hbe2 := str_ne e2
              go_upto_region 10 with fail
              go_quiet (fail)
              go_wp2
              refine ⟨⟨fb, j + 1, by omega, rfl, by rfl, below_drewN HBE2.out _, fun hb m hm => ?_, HF2.out⟩, ?_⟩
              · by_cases em : m = j
                · subst em; exact fun h => e2 (HEQ.out.1 h).2
                · exact HF1.out hb m (by omega)
              · simp only [intOf]
                omega
          · have hbe1 := str_ne e1
            go_upto_region 10 with fail
            go_quiet (fail)
            go_wp2
            refine ⟨⟨fb, j + 1, by omega, rfl, by rfl, below_drewN HBE2.out _, fun hb m hm => ?_, HF2.out⟩, ?_⟩
            · by_cases em : m = j
              · subst em; exact fun h => e1 (HEQ.out.1 h).1
              · exact HF1.out hb m (by omega)
            · simp only [intOf]
              omega
        · have hji : j = i := by omega
          subst hji
          cases fb with
          | true =>
            have hct2 : ((dT (gP z2 z3) (j + 1)).length : Int) = ((dT (gP z2 z3) j).length : Int) + 1 := by rw [dT_new (HF1.out rfl)]; simp
            go_wp2
            refine ⟨⟨j + 1, by omega, by rw [hct2], by rfl, HBE2.out⟩, ?_⟩
            simp only [intOf]
            omega
          | false =>
            have hct2 : ((dT (gP z2 z3) (j + 1)).length : Int) = ((dT (gP z2 z3) j).length : Int) := by rw [dT_old (HF2.out rfl)]
            go_wp2
            refine ⟨⟨j + 1, by omega, by rw [hct2], by rfl, HBE2.out⟩, ?_⟩
            simp only [intOf]
            omega
    · have hin : i = n := by omega
      subst hin
      go_wp2
      go_ret
      exact ⟨rfl, HBE.out⟩
end Go.Proofs.Qxb6609411a
