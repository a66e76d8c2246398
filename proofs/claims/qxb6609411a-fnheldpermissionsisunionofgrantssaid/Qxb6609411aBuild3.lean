import Derived.Test.Qxb6609411aBuild2
namespace Go.Proofs.Qxb6609411a
open Go.RowKit Go.Maps Go.WideMaps Go.WideElems

/-- The juniors of role v behind k edges. -/
def juT (lo hi : List Nat) : Nat → Nat → List Nat
  | 0 => fun _ => []
  | k + 1 => fun v => if v = hi.getD k 0 then addV (juT lo hi k (hi.getD k 0)) (lo.getD k 0) else juT lo hi k v
/-- The seniors of role v behind k edges. -/
def seT (lo hi : List Nat) : Nat → Nat → List Nat
  | 0 => fun _ => []
  | k + 1 => fun v => if v = lo.getD k 0 then addV (seT lo hi k (lo.getD k 0)) (hi.getD k 0) else seT lo hi k v

set_option maxHeartbeats 2000000 in
set_option maxRecDepth 20000 in
theorem build_any (N : Nat) (a1 a2 : Option Addr) (c1 c2 : Nat) (lo hi : List Nat) (w : World) (hN : N ≤ 4096) (h1 : IntsN w a1 lo) (h2 : IntsN w a2 hi) (hl : lo.length ≤ 4096) (hlen : hi.length = lo.length)
    (hlo : ∀ (i : Nat) x, lo[i]? = some x → x < N) (hhi : ∀ (i : Nat) x, hi[i]? = some x → x < N) :
    Calls Try.prog 14 #[.int .i64 (N : Int), .slice a1 lo.length c1, .slice a2 lo.length c2, .slice none 0 0, .slice none 0 0, .slice none 0 0] w fun e w' =>
      ∃ pb rb β, e = .returned (.pointer (some ⟨pb, 0, none⟩)) ∧ BP w' w.heap.size pb rb N β (juT lo hi lo.length) (seT lo hi lo.length) ∧ Below w.heap.size w w' := by
  have H1 := hide h1
  have H2 := hide h2
  have HLO := hide hlo
  have HHI := hide hhi
  clear h1 h2 hlo hhi
  go_enter Try.func14, Try.ntmps14
  go_wp2_with fail
  refine (newPolicy_any w).mono ?_
  rintro e w0 ⟨rfl, hR0, hc0, hb0, hz0⟩
  go_wp2_with fail
  have hB0 : BP w0 w.heap.size (w.heap.size + 1) w.heap.size 0 (fun _ => 0) (fun _ => []) (fun _ => []) :=
    ⟨hc0, hR0.congr (fun v hv => absurd hv (Nat.not_lt_zero _)), fun v hv => absurd hv (Nat.not_lt_zero _), fun v hv => absurd hv (Nat.not_lt_zero _), fun v hv => absurd hv (Nat.not_lt_zero _), fun v hv => absurd hv (Nat.not_lt_zero _), by omega, by omega, by omega, fun v hv => absurd hv (Nat.not_lt_zero _), fun u v _ hv => absurd hv (Nat.not_lt_zero _), fun v hv => absurd hv (Nat.not_lt_zero _)⟩
  have HB0 := hide hB0
  have HBE0 := hide hb0
  clear hR0 hc0 hb0 hB0 hz0
  go_loopw [14] (fun vi wr => ∃ (k : Nat) (β : Nat → Nat), k ≤ N ∧ vi = .int .i64 k ∧ BP wr w.heap.size (w.heap.size + 1) w.heap.size k β (fun _ => []) (fun _ => []) ∧ Below w.heap.size w wr) (fun vi _ => N - (intOf vi).toNat)
  case atStart => exact ⟨0, _, Nat.zero_le _, rfl, HB0.out, HBE0.out⟩
  case round =>
    clear HB0 HBE0
    obtain ⟨k, β, hk, rfl, hBP, hbe⟩ := hrel
    have HBP := hide hBP
    have HBE := hide hbe
    clear hBP hbe
    by_cases hlt : k < N
    · go_wp2_with fail
      refine (role_any k (by omega) _).mono ?_
      rintro e w1 ⟨rfl, hb1⟩
      have HB1 := hide hb1
      clear hb1
      go_wp2_with fail
      refine (newRole_any w1).mono ?_
      rintro e w2 ⟨rfl, _, c2, c3, _, s2, s3, hb2, hz2⟩
      have HC2 := hide c2
      have HC3 := hide c3
      have HS2 := hide s2
      have HS3 := hide s3
      have HB2 := hide hb2
      have HZ2 := hide hz2
      clear c2 c3 s2 s3 hb2 hz2
      go_wp2_with fail
      have hbp2 := (HBP.out.below (HB1.out.trans (HB2.out.mono HB1.out.size)))
      refine (putRole_any (w.heap.size + 1) w.heap.size k (w1.heap.size + 4) _ w2 (by omega) hbp2.cr hbp2.roles).mono ?_
      rintro e w3 ⟨⟨ve, rfl⟩, hR3, hg3⟩
      have HBP3 := hide (HBP.out.push HB1.out HC2.out HC3.out HS2.out HS3.out HB2.out HZ2.out hR3 hg3 rfl rfl)
      have HBE3 : Hid (Below w.heap.size w w3) := (((HBE.out.trans (HB1.out.mono HBE.out.size)).trans (HB2.out.mono (Nat.le_trans HBE.out.size HB1.out.size))).grown hg3 (Nat.le_trans HBE.out.size (Nat.le_trans HB1.out.size HB2.out.size)) (fun j e => by cases e; exact Nat.le_refl _))
      clear hbp2 hR3 hg3
      go_wp2
      refine ⟨⟨k + 1, _, by omega, by rfl, HBP3.out, HBE3.out⟩, ?_⟩
      simp only [intOf]
      omega
    · have hkN : k = N := by omega
      subst hkN
      go_wp2_with fail
      go_loopw [15] (fun vi wr => ∃ (j : Nat), j ≤ lo.length ∧ vi = .int .i64 j ∧ BP wr w.heap.size (w.heap.size + 1) w.heap.size k β (juT lo hi j) (seT lo hi j) ∧ Below w.heap.size w wr) (fun vi _ => lo.length - (intOf vi).toNat)
      case atStart => exact ⟨0, Nat.zero_le _, rfl, HBP.out, HBE.out⟩
      case round =>
        clear HBP HBE
        obtain ⟨j, hj, rfl, hBP, hbe⟩ := hrel
        have HBP := hide hBP
        have HBE := hide hbe
        clear hBP hbe
        by_cases hlt2 : j < lo.length
        · have e1 : lo[j]? = some (lo.getD j 0) := by simp [hlt2]
          have e2 : hi[j]? = some (hi.getD j 0) := by simp [hlen, hlt2]
          have hx := HLO.out j _ e1
          have hy := HHI.out j _ e2
          rcases H1.out with J1 | ⟨b1, o1, rfl, hb1w, hc1⟩
          · subst J1; exact absurd hlt2 (Nat.not_lt_zero _)
          rcases H2.out with J2 | ⟨b2, o2, rfl, hb2w, hc2⟩
          · subst J2; simp at hlen; omega
          have c1 : wr.cell? ⟨b1, o1 + j, none⟩ = _ := (HBE.out.cell (p := ⟨b1, o1 + j, none⟩) hb1w).trans (hc1 j _ e1)
          have c2 : wr.cell? ⟨b2, o2 + j, none⟩ = _ := (HBE.out.cell (p := ⟨b2, o2 + j, none⟩) hb2w).trans (hc2 j _ e2)
          have hsz := HBE.out.size
          have hb1 : b1 < wr.heap.size := by omega
          have hb2 : b2 < wr.heap.size := by omega
          clear hc1 hc2
          generalize hxe : lo.getD j 0 = x at *
          generalize hye : hi.getD j 0 = y at *
          have h0 : (0 : Int) ≤ (j : Int) := Int.natCast_nonneg j
          have h1 : (j : Int) < (lo.length : Int) := by omega
          go_upto_region 9 with fail
          go_cut [] (fun wx => BP wx w.heap.size (w.heap.size + 1) w.heap.size k β (fun v => if v = y then addV (juT lo hi j y) x else juT lo hi j v) (seT lo hi j) ∧ Below w.heap.size w wx ∧ wx.cell? ⟨b1, o1 + j, none⟩ = some (.int .i64 (x : Int)) ∧ wx.cell? ⟨b2, o2 + j, none⟩ = some (.int .i64 (y : Int)) ∧ wr.heap.size ≤ wx.heap.size)
          case first =>
            have hbd : Below wr.heap.size wr wr.drew := (Below.refl _ wr).drew
            have hrx : ∀ (w5 : World), Below wr.heap.size wr w5 → Calls Try.prog 16 #[.int .i64 (x : Int)] w5 fun e w' => e = .returned (.string (nm x)) ∧ w'.cell? ⟨b1, o1 + j, none⟩ = some (.int .i64 (x : Int)) ∧ w'.cell? ⟨b2, o2 + j, none⟩ = some (.int .i64 (y : Int)) ∧ Below wr.heap.size wr w' :=
              fun w5 h5 => role_s wr ⟨b1, o1 + j, none⟩ ⟨b2, o2 + j, none⟩ _ _ hb1 hb2 c1 c2 x w5 (by omega) h5
            have hry : ∀ (w5 : World), Below wr.heap.size wr w5 → Calls Try.prog 16 #[.int .i64 (y : Int)] w5 fun e w' => e = .returned (.string (nm y)) ∧ w'.cell? ⟨b1, o1 + j, none⟩ = some (.int .i64 (x : Int)) ∧ w'.cell? ⟨b2, o2 + j, none⟩ = some (.int .i64 (y : Int)) ∧ Below wr.heap.size wr w' :=
              fun w5 h5 => role_s wr ⟨b1, o1 + j, none⟩ ⟨b2, o2 + j, none⟩ _ _ hb1 hb2 c1 c2 y w5 (by omega) h5
            have hzy : ∀ (w5 : World), Below wr.heap.size wr w5 → Calls Try.prog 39 #[.pointer (some ⟨w.heap.size + 1, 0, none⟩), .string (nm y)] w5 fun e w' => e = .returned (.pointer (some ⟨β y + 4, 0, none⟩)) ∧ w5 = w' :=
              fun w5 h5 => zzrole_any _ _ _ k y (fun v => β v + 4) w5 (HBP.out.below h5).cr (HBP.out.below h5).roles hy
            have hay : ∀ (w5 : World), Below wr.heap.size wr w5 → Calls Try.prog 38 #[.pointer (some ⟨β y + 4, 0, none⟩), .string (nm x)] w5 fun e w' => (∃ v, e = .returned v) ∧ w'.cell? ⟨b1, o1 + j, none⟩ = some (.int .i64 (x : Int)) ∧ w'.cell? ⟨b2, o2 + j, none⟩ = some (.int .i64 (y : Int)) ∧
                BP w' w.heap.size (w.heap.size + 1) w.heap.size k β (fun v => if v = y then addV (juT lo hi j y) x else juT lo hi j v) (seT lo hi j) ∧ Below w.heap.size w w' ∧ wr.heap.size ≤ w'.heap.size := by
              intro w5 h5
              have hP := HBP.out.below h5
              have hl := hP.lo3 y hy
              have hle := SetV.len_le (hP.ju y hy)
              refine (addJunior_any (β y + 4) (β y + 2) _ x _ w5 (by omega) (hP.fj y hy) (hP.ju y hy) (by omega)).mono ?_
              rintro e w6 ⟨hv, hs, hg⟩
              have hnb : ∀ b, b < w.heap.size → some b ≠ some (β y + 2) := fun b hb e => by cases e; omega
              refine ⟨hv, hg.cell ((h5.cell (p := ⟨b1, o1 + j, none⟩) hb1).trans c1) (hnb _ hb1w), hg.cell ((h5.cell (p := ⟨b2, o2 + j, none⟩) hb2).trans c2) (hnb _ hb2w), hP.setJ hy hg hs, ?_, Nat.le_trans h5.size hg.size⟩
              exact (HBE.out.trans (h5.mono hsz)).grown hg (Nat.le_trans hsz h5.size) (fun j e => by cases e; omega)
            go_region_held3 (fun w' => w'.cell? ⟨b1, o1 + j, none⟩ = some (.int .i64 (x : Int)) ∧ w'.cell? ⟨b2, o2 + j, none⟩ = some (.int .i64 (y : Int))) (first | (exact ⟨by assumption, by assumption⟩) | go_keep) (first
              | (with_reducible refine Calls.mono (hrx _ (by assumption)) ?_; rintro e w5 ⟨rfl, h51, h52, h53⟩)
              | (with_reducible refine Calls.mono (hry _ (by assumption)) ?_; rintro e w5 ⟨rfl, h51, h52, h53⟩)
              | (with_reducible refine Calls.mono (hzy _ (by assumption)) ?_; rintro e w6 ⟨rfl, rfl⟩)
              | (with_reducible refine Calls.mono (hay _ (by assumption)) ?_; rintro e w7 ⟨⟨ve, rfl⟩, h71, h72, h73, h74, h75⟩)
              | fail "none")
            all_goals (go_wp2_with fail; go_meet; exact ⟨by assumption, by assumption, by assumption, by assumption, by assumption⟩)
          case rest =>
            obtain ⟨hBP2, hBE2, c1', c2', hsz2⟩ := hcut
            have HBP2 := hide hBP2
            have HBE2 := hide hBE2
            clear hBP2 hBE2 HBP HBE c1 c2
            have hb1c : b1 < wc.heap.size := by omega
            have hb2c : b2 < wc.heap.size := by omega
            have hszc := HBE2.out.size
            go_upto_region 10 with fail
            have hbd : Below wc.heap.size wc wc.drew := (Below.refl _ wc).drew
            have hrx : ∀ (w5 : World), Below wc.heap.size wc w5 → Calls Try.prog 16 #[.int .i64 (x : Int)] w5 fun e w' => e = .returned (.string (nm x)) ∧ w'.cell? ⟨b1, o1 + j, none⟩ = some (.int .i64 (x : Int)) ∧ w'.cell? ⟨b2, o2 + j, none⟩ = some (.int .i64 (y : Int)) ∧ Below wc.heap.size wc w' :=
              fun w5 h5 => role_s wc ⟨b1, o1 + j, none⟩ ⟨b2, o2 + j, none⟩ _ _ hb1c hb2c c1' c2' x w5 (by omega) h5
            have hry : ∀ (w5 : World), Below wc.heap.size wc w5 → Calls Try.prog 16 #[.int .i64 (y : Int)] w5 fun e w' => e = .returned (.string (nm y)) ∧ w'.cell? ⟨b1, o1 + j, none⟩ = some (.int .i64 (x : Int)) ∧ w'.cell? ⟨b2, o2 + j, none⟩ = some (.int .i64 (y : Int)) ∧ Below wc.heap.size wc w' :=
              fun w5 h5 => role_s wc ⟨b1, o1 + j, none⟩ ⟨b2, o2 + j, none⟩ _ _ hb1c hb2c c1' c2' y w5 (by omega) h5
            have hzy : ∀ (w5 : World), Below wc.heap.size wc w5 → Calls Try.prog 39 #[.pointer (some ⟨w.heap.size + 1, 0, none⟩), .string (nm x)] w5 fun e w' => e = .returned (.pointer (some ⟨β x + 4, 0, none⟩)) ∧ w5 = w' :=
              fun w5 h5 => zzrole_any _ _ _ k x (fun v => β v + 4) w5 (HBP2.out.below h5).cr (HBP2.out.below h5).roles hx
            have hay : ∀ (w5 : World), Below wc.heap.size wc w5 → Calls Try.prog 40 #[.pointer (some ⟨β x + 4, 0, none⟩), .string (nm y)] w5 fun e w' => (∃ v, e = .returned v) ∧ w'.cell? ⟨b1, o1 + j, none⟩ = some (.int .i64 (x : Int)) ∧ w'.cell? ⟨b2, o2 + j, none⟩ = some (.int .i64 (y : Int)) ∧
                BP w' w.heap.size (w.heap.size + 1) w.heap.size k β (fun v => if v = y then addV (juT lo hi j y) x else juT lo hi j v) (fun v => if v = x then addV (seT lo hi j x) y else seT lo hi j v) ∧ Below w.heap.size w w' := by
              intro w5 h5
              have hP := HBP2.out.below h5
              have hl := hP.lo3 x hx
              have hle := SetV.len_le (hP.se x hx)
              refine (addSenior_any (β x + 4) (β x + 3) _ y _ w5 (by omega) (hP.fs x hx) (hP.se x hx) (by omega)).mono ?_
              rintro e w6 ⟨hv, hs, hg⟩
              have hnb : ∀ b, b < w.heap.size → some b ≠ some (β x + 3) := fun b hb e => by cases e; omega
              refine ⟨hv, hg.cell ((h5.cell (p := ⟨b1, o1 + j, none⟩) hb1c).trans c1') (hnb _ hb1w), hg.cell ((h5.cell (p := ⟨b2, o2 + j, none⟩) hb2c).trans c2') (hnb _ hb2w), hP.setS hx hg hs, ?_⟩
              exact (HBE2.out.trans (h5.mono hszc)).grown hg (Nat.le_trans hszc h5.size) (fun j e => by cases e; omega)
            go_region_held3 (fun w' => w'.cell? ⟨b1, o1 + j, none⟩ = some (.int .i64 (x : Int)) ∧ w'.cell? ⟨b2, o2 + j, none⟩ = some (.int .i64 (y : Int))) (first | (exact ⟨by assumption, by assumption⟩) | go_keep) (first
              | (with_reducible refine Calls.mono (hrx _ (by assumption)) ?_; rintro e w5 ⟨rfl, h51, h52, h53⟩)
              | (with_reducible refine Calls.mono (hry _ (by assumption)) ?_; rintro e w5 ⟨rfl, h51, h52, h53⟩)
              | (with_reducible refine Calls.mono (hzy _ (by assumption)) ?_; rintro e w6 ⟨rfl, rfl⟩)
              | (with_reducible refine Calls.mono (hay _ (by assumption)) ?_; rintro e w7 ⟨⟨ve, rfl⟩, h71, h72, h73, h74⟩)
              | fail "none")
            all_goals
              have HBP3 := hide h73
              have HBE3 := hide h74
              clear h73 h74 HBP2 HBE2
              go_wp2
              refine ⟨⟨j + 1, by omega, by rfl, ?_, HBE3.out⟩, ?_⟩
              · subst hxe
                subst hye
                exact HBP3.out
              · simp only [intOf]
                omega
        · have hjN : j = lo.length := by omega
          subst hjN
          go_wp2_with fail
          go_loopw [16] (fun vi wx => vi = .int .i64 (0 : Int) ∧ wx = wr) (fun vi _ => 0)
          case atStart => exact ⟨rfl, rfl⟩
          case round =>
            obtain ⟨rfl, rfl⟩ := hrel
            go_wp2_with fail
            go_ret
            exact ⟨_, _, β, rfl, HBP.out, HBE.out⟩
end Go.Proofs.Qxb6609411a
