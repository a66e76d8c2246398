import Derived.Test.Qxb6609411aGBuild
import Derived.Test.Qxb6609411aDual
namespace Go.Proofs.Qxb6609411a
open Go.RowKit Go.Maps Go.WideMaps Go.WideElems

/-- The grants' permissions. -/
def permsOf (n : Nat) (z2 z3 : List ByteArray) : List PP := (List.range n).map fun i => ⟨z2.getD i ⟨#[]⟩, z3.getD i ⟨#[]⟩⟩
theorem permsOf_getD {n : Nat} {z2 z3 : List ByteArray} {i : Nat} (h : i < n) : (permsOf n z2 z3).getD i ⟨⟨#[]⟩, ⟨#[]⟩⟩ = ⟨z2.getD i ⟨#[]⟩, z3.getD i ⟨#[]⟩⟩ := by
  rw [List.getD_eq_getElem?_getD]
  simp [permsOf, h]

set_option maxHeartbeats 2000000 in
set_option maxRecDepth 20000 in
theorem gbuild_any (N n : Nat) (a1 a2 a3 : Option Addr) (c1 c2 c3 : Nat) (z1 : List Int) (z2 z3 : List ByteArray) (w : World) (hN : N ≤ 4096) (hn : n ≤ 4096) (h1 : IRow w a1 n z1) (h2 : SRow w a2 n z2) (h3 : SRow w a3 n z3)
    (hro : ∀ (i : Nat), i < n → 0 ≤ z1.getD i 0 ∧ z1.getD i 0 < N) :
    Calls Try.prog 14 #[.int .i64 (N : Int), .slice none 0 0, .slice none 0 0, .slice a1 n c1, .slice a2 n c2, .slice a3 n c3] w fun e w' =>
      ∃ pb rb β, e = .returned (.pointer (some ⟨pb, 0, none⟩)) ∧ BG w' w.heap.size pb rb N n β (peT (natsOf n z1) (permsOf n z2 z3) n) ∧ Below w.heap.size w w' := by
  have H1 := hide h1
  have H2 := hide h2
  have H3 := hide h3
  have HRO := hide hro
  clear h1 h2 h3 hro
  go_enter Try.func14, Try.ntmps14
  go_wp2_with fail
  refine (newPolicy_any w).mono ?_
  rintro e w0 ⟨rfl, hR0, hc0, hb0, hz0⟩
  go_wp2_with fail
  have hB0 : BG w0 w.heap.size (w.heap.size + 1) w.heap.size 0 0 (fun _ => 0) (fun _ => []) :=
    ⟨hc0, hR0.congr (fun v hv => absurd hv (Nat.not_lt_zero _)), fun v hv => absurd hv (Nat.not_lt_zero _), fun v hv => absurd hv (Nat.not_lt_zero _), by omega, by omega, by omega, fun v hv => absurd hv (Nat.not_lt_zero _), fun u v _ hv => absurd hv (Nat.not_lt_zero _), fun v hv => absurd hv (Nat.not_lt_zero _)⟩
  have HB0 := hide hB0
  have HBE0 := hide hb0
  clear hR0 hc0 hb0 hB0 hz0
  go_loopw [14] (fun vi wr => ∃ (k : Nat) (β : Nat → Nat), k ≤ N ∧ vi = .int .i64 k ∧ BG wr w.heap.size (w.heap.size + 1) w.heap.size k 0 β (fun _ => []) ∧ Below w.heap.size w wr) (fun vi _ => N - (intOf vi).toNat)
  case atStart => exact ⟨0, _, Nat.zero_le _, rfl, HB0.out, HBE0.out⟩
  case round =>
    clear HB0 HBE0
    obtain ⟨k, β, hk, rfl, hBP, hbe⟩ := hrel
    have HBP := hide hBP
    have HBE := hide hbe
    clear hBP hbe
    by_cases hlt : k < N
    · go_wp2_with fail
      refine (role_any k (by omega) _).mono ?_
      rintro e w1 ⟨rfl, hb1⟩
      have HB1 := hide hb1
      clear hb1
      go_wp2_with fail
      refine (newRole_any w1).mono ?_
      rintro e w2 ⟨rfl, c0, _, _, s0, _, _, hb2, hz2⟩
      have HC0 := hide c0
      have HS0 := hide (setP_new s0)
      have HB2 := hide hb2
      have HZ2 := hide hz2
      clear c0 s0 hb2 hz2
      go_wp2_with fail
      have hbp2 := (HBP.out.below (HB1.out.trans (HB2.out.mono HB1.out.size)))
      refine (putRole_any (w.heap.size + 1) w.heap.size k (w1.heap.size + 4) _ w2 (by omega) hbp2.cr hbp2.roles).mono ?_
      rintro e w3 ⟨⟨ve, rfl⟩, hR3, hg3⟩
      have HBP3 := hide (HBP.out.push HB1.out HC0.out HS0.out HB2.out HZ2.out hR3 hg3 rfl)
      have HBE3 : Hid (Below w.heap.size w w3) := (((HBE.out.trans (HB1.out.mono HBE.out.size)).trans (HB2.out.mono (Nat.le_trans HBE.out.size HB1.out.size))).grown hg3 (Nat.le_trans HBE.out.size (Nat.le_trans HB1.out.size HB2.out.size)) (fun j e => by cases e; exact Nat.le_refl _))
      clear hbp2 hR3 hg3
      go_wp2
      refine ⟨⟨k + 1, _, by omega, by rfl, HBP3.out, HBE3.out⟩, ?_⟩
      simp only [intOf]
      omega
    · have hkN : k = N := by omega
      subst hkN
      go_wp2_with fail
      obtain ⟨W0, hW0⟩ : ∃ W0, W0 = wr := ⟨_, rfl⟩
      subst hW0
      go_loopw [15] (fun vi wx => vi = .int .i64 (0 : Int) ∧ wx = W0) (fun vi _ => 0)
      case atStart => exact ⟨rfl, rfl⟩
      case round =>
        obtain ⟨rfl, rfl⟩ := hrel
        go_wp2_with fail
        go_loopw [16] (fun vi wr => ∃ (j : Nat), j ≤ n ∧ vi = .int .i64 j ∧ BG wr w.heap.size (w.heap.size + 1) w.heap.size k j β (peT (natsOf n z1) (permsOf n z2 z3) j) ∧ Below w.heap.size w wr) (fun vi _ => n - (intOf vi).toNat)
        case atStart => exact ⟨0, Nat.zero_le _, rfl, HBP.out, HBE.out⟩
        case round =>
          clear HBP HBE
          obtain ⟨j, hj, rfl, hBP, hbe⟩ := hrel
          have HBP := hide hBP
          have HBE := hide hbe
          clear hBP hbe
          by_cases hlt2 : j < n
          · rcases H1.out with J1 | ⟨b1, o1, rfl, hb1w, hc1⟩
            · omega
            rcases H2.out.2 with J2 | ⟨b2, o2, rfl, hb2w, hc2⟩
            · omega
            rcases H3.out.2 with J3 | ⟨b3, o3, rfl, hb3w, hc3⟩
            · omega
            have hgj := HRO.out j hlt2
            have hxn := natsOf_getD (z := z1) hlt2
            have hpn := permsOf_getD (z2 := z2) (z3 := z3) hlt2
            have hok : OkP ⟨z2.getD j ⟨#[]⟩, z3.getD j ⟨#[]⟩⟩ := ⟨H2.out.1 j hlt2, H3.out.1 j hlt2⟩
            have hc1j := hc1 j hlt2
            rw [← Int.toNat_of_nonneg (show 0 ≤ z1.getD j 0 by omega), ← hxn] at hc1j
            have c1 : wr.cell? ⟨b1, o1 + j, none⟩ = _ := (HBE.out.cell (p := ⟨b1, o1 + j, none⟩) hb1w).trans hc1j
            have c2 : wr.cell? ⟨b2, o2 + j, none⟩ = _ := (HBE.out.cell (p := ⟨b2, o2 + j, none⟩) hb2w).trans (hc2 j hlt2)
            have c3 : wr.cell? ⟨b3, o3 + j, none⟩ = _ := (HBE.out.cell (p := ⟨b3, o3 + j, none⟩) hb3w).trans (hc3 j hlt2)
            have hx : (natsOf n z1).getD j 0 < k := by omega
            clear hc1 hc2 hc3 hc1j hxn hgj
            generalize hxe : (natsOf n z1).getD j 0 = x at *
            generalize hse : z2.getD j ⟨#[]⟩ = s at *
            generalize hte : z3.getD j ⟨#[]⟩ = t at *
            have hsz := HBE.out.size
            have hb1 : b1 < wr.heap.size := by omega
            have hb2 : b2 < wr.heap.size := by omega
            have hb3 : b3 < wr.heap.size := by omega
            have h0 : (0 : Int) ≤ (j : Int) := Int.natCast_nonneg j
            have h1 : (j : Int) < (n : Int) := by omega
            go_upto_region 14 with fail
            have hbd : Below wr.heap.size wr wr.drew := (Below.refl _ wr).drew
            have hrx : ∀ (w5 : World), Below wr.heap.size wr w5 → Calls Try.prog 16 #[.int .i64 (x : Int)] w5 fun e w' => e = .returned (.string (nm x)) ∧ w'.cell? ⟨b1, o1 + j, none⟩ = some (.int .i64 (x : Int)) ∧ w'.cell? ⟨b2, o2 + j, none⟩ = some (.string s) ∧ w'.cell? ⟨b3, o3 + j, none⟩ = some (.string t) ∧ Below wr.heap.size wr w' := by
              intro w5 h5
              refine (role_any x (by omega) w5).mono ?_
              rintro e w6 ⟨rfl, h6⟩
              have hB : Below wr.heap.size wr w6 := h5.trans (h6.mono h5.size)
              exact ⟨rfl, (hB.cell (p := ⟨b1, o1 + j, none⟩) hb1).trans c1, (hB.cell (p := ⟨b2, o2 + j, none⟩) hb2).trans c2, (hB.cell (p := ⟨b3, o3 + j, none⟩) hb3).trans c3, hB⟩
            have hzy : ∀ (w5 : World), Below wr.heap.size wr w5 → Calls Try.prog 39 #[.pointer (some ⟨w.heap.size + 1, 0, none⟩), .string (nm x)] w5 fun e w' => e = .returned (.pointer (some ⟨β x + 4, 0, none⟩)) ∧ w5 = w' :=
              fun w5 h5 => zzrole_any _ _ _ k x (fun v => β v + 4) w5 (HBP.out.below h5).cr (HBP.out.below h5).roles hx
            have hay : ∀ (w5 : World), Below wr.heap.size wr w5 → Calls Try.prog 41 #[.pointer (some ⟨β x + 4, 0, none⟩), .agg #[.string s, .string t]] w5 fun e w' => (∃ v, e = .returned v) ∧ w'.cell? ⟨b1, o1 + j, none⟩ = some (.int .i64 (x : Int)) ∧ w'.cell? ⟨b2, o2 + j, none⟩ = some (.string s) ∧ w'.cell? ⟨b3, o3 + j, none⟩ = some (.string t) ∧
                BG w' w.heap.size (w.heap.size + 1) w.heap.size k (j + 1) β (fun v => if v = x then addP (peT (natsOf n z1) (permsOf n z2 z3) j x) ⟨s, t⟩ else peT (natsOf n z1) (permsOf n z2 z3) j v) ∧ Below w.heap.size w w' := by
              intro w5 h5
              have hP := HBP.out.below h5
              have hl := hP.lo3 x hx
              refine (grant_any (β x + 4) (β x) j ⟨s, t⟩ _ w5 hok (hP.fp x hx) (hP.pe x hx) (by omega)).mono ?_
              rintro e w6 ⟨hv, hs, hg⟩
              have hcl : ∀ b o v, b < w.heap.size → w5.cell? ⟨b, o, none⟩ = some v → w6.cell? ⟨b, o, none⟩ = some v := fun b o v hb hc => by
                have hbl := hg.block b (World.block_lt_of_cell? w5 _ hc) (show ¬ b = β x by omega)
                simp only [World.cell?] at hc ⊢
                rw [hbl]; exact hc
              refine ⟨hv, hcl _ _ _ hb1w ((h5.cell (p := ⟨b1, o1 + j, none⟩) hb1).trans c1), hcl _ _ _ hb2w ((h5.cell (p := ⟨b2, o2 + j, none⟩) hb2).trans c2), hcl _ _ _ hb3w ((h5.cell (p := ⟨b3, o3 + j, none⟩) hb3).trans c3), hP.grant hx hg hs, ?_⟩
              exact hg.below (HBE.out.trans (h5.mono hsz)) (fun q hq e => by omega) (Nat.le_trans hsz h5.size)
            go_region_held3 (fun w' => w'.cell? ⟨b1, o1 + j, none⟩ = some (.int .i64 (x : Int)) ∧ w'.cell? ⟨b2, o2 + j, none⟩ = some (.string s) ∧ w'.cell? ⟨b3, o3 + j, none⟩ = some (.string t)) (first | (exact ⟨by assumption, by assumption, by assumption⟩) | go_keep) (first
              | (with_reducible refine Calls.mono (hrx _ (by assumption)) ?_; rintro e w5 ⟨rfl, h51, h52, h53, h54⟩)
              | (with_reducible refine Calls.mono (hzy _ (by assumption)) ?_; rintro e w6 ⟨rfl, rfl⟩)
              | (with_reducible refine Calls.mono (hay _ (by assumption)) ?_; rintro e w7 ⟨⟨ve, rfl⟩, h71, h72, h73, h74, h75⟩)
              | fail "none")
            all_goals
              have HBP3 := hide h74
              have HBE3 := hide h75
              clear h74 h75 HBP HBE
              go_wp2
              refine ⟨⟨j + 1, by omega, by rfl, ?_, HBE3.out⟩, ?_⟩
              · show BG _ _ _ _ _ _ _ (fun v => if v = (natsOf n z1).getD j 0 then addP (peT (natsOf n z1) (permsOf n z2 z3) j ((natsOf n z1).getD j 0)) ((permsOf n z2 z3).getD j ⟨⟨#[]⟩, ⟨#[]⟩⟩) else peT (natsOf n z1) (permsOf n z2 z3) j v)
                rw [hpn, hxe]
                exact HBP3.out
              · simp only [intOf]
                omega
          · have hjN : j = n := by omega
            subst hjN
            go_wp2_with fail
            go_ret
            exact ⟨_, _, β, rfl, HBP.out, HBE.out⟩
end Go.Proofs.Qxb6609411a
