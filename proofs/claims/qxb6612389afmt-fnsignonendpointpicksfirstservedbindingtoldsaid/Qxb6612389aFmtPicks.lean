import Derived.Test.Qxb6612389aFmtCopy
import Derived.Test.Qxb6612389aFmtPlain
namespace Go.Proofs.Qxb6612389aFmt
open Go.ChangeShapes Go.WideShapes Go.ChangeAt Go.RowKit

set_option maxHeartbeats 1600000 in
set_option maxRecDepth 20000 in
theorem picks_walk (a1 a2 a3 : Option Addr) (c1 c2 c3 : Nat) (sb sl ss : List ByteArray) (url : ByteArray) (w : World)
    (h0 : url.size ≤ maxLen) (h1 : Strs w a1 sb) (h2 : Strs w a2 sl) (h3 : Strs w a3 ss)
    (l1 : sb.length ≤ maxLen) (l2 : sl.length ≤ maxLen) (l3 : ss.length ≤ maxLen)
    (z1 : ∀ s ∈ sb, s.size ≤ maxLen) (z2 : ∀ s ∈ sl, s.size ≤ maxLen) (z3 : ∀ s ∈ ss, s.size ≤ maxLen) :
    Calls Tryf.prog 3 #[.string url, .slice a1 sb.length c1, .slice a2 sl.length c2, .slice a3 ss.length c3] w fun e w' => e = .returned (.bool true) ∧ Below w.heap.size w w' := by
  have HZ5 := hide (zzBytes5_any url a1 a2 a3 c1 c2 c3 sb sl ss w h0 h1 h2 h3 l1 l2 l3 z1 z2 z3)
  have Z1 := hide z1
  have Z2 := hide z2
  have Z3 := hide z3
  have S1 := hide h1
  have S2 := hide h2
  have S3 := hide h3
  clear h1 h2 h3 z1 z2 z3
  unfold maxLen at h0 l1 l2 l3
  go_enter Tryf.func3, Tryf.ntmps3
  go_wp2_with fail
  refine HZ5.out.mono ?_
  rintro e w' ⟨⟨r, rfl⟩, rfl⟩
  clear HZ5
  cases r
  · go_wp2
    go_ret
    exact ⟨rfl, Below.refl _ _⟩
  · go_wp2_with fail
    any_goals (go_ret; exact ⟨rfl, Below.refl _ _⟩)
    have q0 : (url.size : Int) ≤ 1048576 := by omega
    have q1 : (sb.length : Int) ≤ 4096 := by omega
    have q2 : (sl.length : Int) ≤ 4096 := by omega
    have q3 : (ss.length : Int) ≤ 4096 := by omega
    refine (strBytes_any a1 c1 sb w S1.out (by omega) Z1.out).mono ?_
    rintro e w' ⟨n1, rfl, p11, p12, p13, rfl⟩
    clear p13 Z1
    go_wp2_with fail
    refine (strBytes_any a2 c2 sl w S2.out (by omega) Z2.out).mono ?_
    rintro e w' ⟨n2, rfl, p21, p22, p23, rfl⟩
    clear p23 Z2
    go_wp2_with fail
    refine (strBytes_any a3 c3 ss w S3.out (by omega) Z3.out).mono ?_
    rintro e w' ⟨n3, rfl, p31, p32, p33, rfl⟩
    have P33 := hide p33
    clear p33 Z3
    by_cases hsum : (url.size : Int) + n1 + n2 + n3 ≤ 1048576
    · have HS3 : Hid (ssum ss ≤ 1048576) := by
        show ssum ss ≤ 1048576
        have := P33.out (by omega)
        omega
      clear P33
      by_cases hlen : sl.length = sb.length
      · have hl2 : ((sb.length : Int) != (sl.length : Int)) = false := by rw [bne_eq_false_iff_eq]; omega
        have hnil := fun (wx : World) (ax : Option Addr) (nx cx : Nat) => run_neq_slice_nil_any (P := Tryf.prog) wx 22 9 ax nx cx 0 0 Tryf.underlying22
        have HLEN := hide hlen
        go_upto_if 62 with fail
        clear hlen hl2
        go_cut [1] (fun s1 wx => ∃ a c, s1 = Value.slice a sb.length c ∧ Strs wx a sb ∧ Below w.heap.size w wx)
        case first =>
          cases a1 with
          | none =>
            go_wp2
            go_meet
            exact ⟨_, _, rfl, S1.out, Below.refl _ _⟩
          | some x =>
            have hmk := make22 sb.length (by omega)
            obtain ⟨w1, hcp, hst, hbl⟩ := copy_strs (some x) c1 sb w S1.out
            have HST := hide hst
            have HBL := hide hbl
            clear hst hbl
            go_wp2
            go_meet
            exact ⟨_, _, rfl, HST.out, HBL.out⟩
        case rest =>
          clear S1
          obtain ⟨a1', c1', rfl, hst1, hbl1⟩ := hcut
          obtain ⟨wb, hwb⟩ : ∃ wb, wb = wc := ⟨_, rfl⟩
          subst hwb
          have S1 := hide hst1
          have B1 := hide hbl1
          have S2' := hide (S2.out.below hbl1)
          have S3' := hide (S3.out.below hbl1)
          clear hst1 hbl1 S2 S3
          go_upto_if 71 with fail
          go_cut [2] (fun s1 wx => ∃ a c, s1 = Value.slice a sb.length c ∧ Strs wx a sl ∧ Below wb.heap.size wb wx)
          case first =>
            cases a2 with
            | none =>
              go_wp2
              go_meet
              exact ⟨_, _, rfl, S2'.out, Below.refl _ _⟩
            | some x =>
              have hmk := make22 sb.length (by omega)
              obtain ⟨w1, hcp, hst, hbl⟩ := copy_strs (some x) c2 sl wb S2'.out
              rw [HLEN.out] at hcp
              have HST := hide hst
              have HBL := hide hbl
              clear hst hbl
              go_wp2
              go_meet
              exact ⟨_, _, rfl, HST.out, HBL.out⟩
          case rest =>
            clear S2'
            obtain ⟨a2', c2', rfl, hst2, hbl2⟩ := hcut
            obtain ⟨wd, hwd⟩ : ∃ wd, wd = wc := ⟨_, rfl⟩
            subst hwd
            have S2 := hide hst2
            have S1' := hide (S1.out.below hbl2)
            have S3 := hide (S3'.out.below hbl2)
            have B2 := hide (B1.out.trans (hbl2.mono B1.out.size))
            clear hst2 hbl2 S1 S3' B1
            go_upto_if 80 with fail
            go_cut [3] (fun s1 wx => ∃ a c, s1 = Value.slice a ss.length c ∧ Strs wx a ss ∧ Below wd.heap.size wd wx)
            case first =>
              cases a3 with
              | none =>
                go_wp2
                go_meet
                exact ⟨_, _, rfl, S3.out, Below.refl _ _⟩
              | some x =>
                have hmk := make22 ss.length (by omega)
                obtain ⟨w1, hcp, hst, hbl⟩ := copy_strs (some x) c3 ss wd S3.out
                have HST := hide hst
                have HBL := hide hbl
                clear hst hbl
                go_wp2
                go_meet
                exact ⟨_, _, rfl, HST.out, HBL.out⟩
            case rest =>
              clear S3
              obtain ⟨a3', c3', rfl, hst3, hbl3⟩ := hcut
              obtain ⟨we, hwe⟩ : ∃ we, we = wc := ⟨_, rfl⟩
              subst hwe
              have hbt := B2.out.trans (hbl3.mono B2.out.size)
              have get : ∀ {a : Option Addr} {xs : List ByteArray}, Strs we a xs → ∀ k, k < xs.length → ∃ b o s, a = some ⟨b, o, none⟩ ∧ b < we.heap.size ∧ xs[k]? = some s ∧ we.cell? ⟨b, o + k, none⟩ = some (.string s) := by
                intro a xs hs k hk
                rcases hs with rfl | ⟨b, o, ha, hb, hc⟩
                · simp at hk
                · exact ⟨b, o, xs[k], ha, hb, by simp [hk], hc k _ (by simp [hk])⟩
              have hs1 := S1'.out.below hbl3
              have hs2 := S2.out.below hbl3
              have T1 := hide hs1
              have T2 := hide hs2
              have T3 := hide hst3
              have BT := hide hbt
              have G1 := hide (get hs1)
              have G3 := hide (get hst3)
              have G2 := hide (get hs2)
              clear get hs1 hs2 hst3 hbl3 hbt S1' S2 B2 hnil
              generalize hn1 : sb.length = n1 at *
              generalize hn3 : ss.length = n3 at *
              have HN1 := hide hn1
              have HN3 := hide hn3
              clear hn1 hn3
              go_wp2_with fail
              go_loopw [12, 13, 14] (fun vJ vR vk wr => ∃ (k : Nat) (J R : Int), k ≤ n1 ∧ vk = .int .i64 k ∧ vJ = .int .i64 J ∧ vR = .int .i64 R ∧ Best ss sb k J R ∧ Below we.heap.size we wr) (fun _ _ vk _ => n1 - (intOf vk).toNat)
              case atStart => exact ⟨0, -1, 0, Nat.zero_le _, rfl, rfl, rfl, best_start _ _, Below.refl _ _⟩
              case round =>
                obtain ⟨k, J, R, hk, rfl, rfl, rfl, hbest, hbw⟩ := hrel
                have hbd := best_bd hbest
                have HN3' := HN3.out
                have HBest := hide hbest
                have HBW := hide hbw
                obtain ⟨d1, d2, d3, d4⟩ := hbd
                rw [HN3'] at d4
                clear hbest hbw HN3'
                by_cases hlt : k < n1
                · obtain ⟨b1, o1, s, e1, hb1, hs1, hc1⟩ := G1.out k hlt
                  subst e1
                  have HS1 := hide hs1
                  have HC1 := hide hc1
                  clear hs1 hc1
                  go_wp2_with fail
                  go_loopw [15, 16] (fun vr vi wr => ∃ m : Nat, m ≤ n3 ∧ vi = .int .i64 m ∧ vr = .int .i64 (-1) ∧ (∀ i x, i < m → ss[i]? = some x → (x.toList == s.toList) = false) ∧ Below we.heap.size we wr) (fun _ vi _ => n3 - (intOf vi).toNat)
                  case atStart => exact ⟨0, Nat.zero_le _, rfl, rfl, fun _ _ h => absurd h (Nat.not_lt_zero _), HBW.out⟩
                  case round =>
                    clear HBW
                    obtain ⟨m, hm, rfl, rfl, hno, hbw⟩ := hrel
                    have HNO := hide hno
                    have HBW := hide hbw
                    clear hno hbw
                    by_cases hmt : m < n3
                    · obtain ⟨b3, o3, x, e3, hb3, hs3, hc3⟩ := G3.out m hmt
                      subst e3
                      have q1 : wr.cell? ⟨b1, o1 + k, none⟩ = some (.string s) := by rw [HBW.out.cell (by simpa using hb1)]; exact HC1.out
                      have q3 : wr.cell? ⟨b3, o3 + m, none⟩ = some (.string x) := by rw [HBW.out.cell (by simpa using hb3)]; exact hc3
                      have HS3 := hide hs3
                      clear hs3 hc3
                      cases hx : (x.toList == s.toList)
                      · have HX := hide hx
                        go_wp2_with fail
                        go_region
                        all_goals
                          go_wp2
                          go_roundw
                          case rel =>
                            refine ⟨m + 1, by omega, by go_num, rfl, fun i y hi hy => ?_, HBW.out.drew⟩
                            by_cases e : i = m
                            · subst e
                              have h2 := HS3.out
                              rw [hy] at h2
                              cases h2
                              exact HX.out
                            · exact HNO.out i y (by omega) hy
                          case measure => simp [intOf]; omega
                      · have HX := hide hx
                        have HR : Hid (IsRank ss s m) := ⟨⟨x, HS3.out, HX.out⟩, HNO.out⟩
                        go_wp2_with fail
                        by_cases hJ : J < 0
                        · have HB2 := hide (best_take HS1.out HR.out HBest.out (.inl hJ))
                          go_region
                          all_goals
                            go_wp2
                            first
                              | (refine ⟨⟨k + 1, _, _, by omega, by go_num, rfl, rfl, HB2.out, HBW.out.drew⟩, ?_⟩; simp [intOf]; omega)
                              | (refine ⟨?_, by simp [intOf]; omega⟩; repeat apply Exists.intro; exact ⟨⟨k + 1, _, _, by omega, by go_num, rfl, rfl, HB2.out, HBW.out.drew⟩, rfl⟩)
                        · by_cases hR : (m : Int) < R
                          · have HB2 := hide (best_take HS1.out HR.out HBest.out (.inr hR))
                            go_region
                            all_goals
                              go_wp2
                              first
                                | (refine ⟨⟨k + 1, _, _, by omega, by go_num, rfl, rfl, HB2.out, HBW.out.drew⟩, ?_⟩; simp [intOf]; omega)
                                | (refine ⟨?_, by simp [intOf]; omega⟩; repeat apply Exists.intro; exact ⟨⟨k + 1, _, _, by omega, by go_num, rfl, rfl, HB2.out, HBW.out.drew⟩, rfl⟩)
                          · have HB2 := hide (best_skip HS1.out HR.out HBest.out (by omega) (by omega))
                            go_region
                            all_goals
                              go_wp2
                              first
                                | (refine ⟨⟨k + 1, _, _, by omega, by go_num, rfl, rfl, HB2.out, HBW.out.drew⟩, ?_⟩; simp [intOf]; omega)
                                | (refine ⟨?_, by simp [intOf]; omega⟩; repeat apply Exists.intro; exact ⟨⟨k + 1, _, _, by omega, by go_num, rfl, rfl, HB2.out, HBW.out.drew⟩, rfl⟩)
                    · have HNR : Hid (NoRank ss s) := by
                        intro i x hx
                        exact HNO.out i x (by have := (List.getElem?_eq_some_iff.1 hx).1; have := HN3.out; omega) hx
                      have HB2 := hide (best_none HS1.out HNR.out HBest.out)
                      go_wp2
                      exact ⟨⟨k + 1, J, R, by omega, by go_num, rfl, rfl, HB2.out, HBW.out⟩, by simp [intOf]; omega⟩
                · have hkn : k = n1 := by omega
                  subst hkn
                  have hBest := HBest.out
                  have e1 := HN1.out
                  have e3 := HN3.out
                  subst e1 e3
                  have hz := zsign_any a1' a2' a3' c1' c2' c3' sb sl ss url wr (T1.out.below HBW.out) (T2.out.below HBW.out) (T3.out.below HBW.out) (by omega) HLEN.out (by omega) HS3.out
                  rw [HLEN.out] at hz
                  have HZ := hide hz
                  clear hz
                  go_wp2_with fail
                  refine HZ.out.mono ?_
                  rintro e w2 ⟨hzp, hb2⟩
                  have BW2 : Hid (Below we.heap.size we w2) := HBW.out.trans (hb2.mono HBW.out.size)
                  have BB : Hid (Below w.heap.size w w2) := BT.out.trans (BW2.out.mono BT.out.size)
                  clear HZ hb2 HBW HBest
                  by_cases hJ : 0 ≤ J
                  · obtain ⟨Jn, s, l, rfl, hsJ, hlJ, hpk⟩ := best_pick HLEN.out hJ hBest
                    rw [hpk] at hzp
                    have he : e = .returned (.tuple #[.string s, .string l, .nilIface]) := hzp
                    subst he
                    clear hzp hBest hpk
                    have hJlt := (List.getElem?_eq_some_iff.1 hsJ).1
                    obtain ⟨b1, o1, s', f1, hb1, hs1, hc1⟩ := G1.out Jn hJlt
                    obtain ⟨b2, o2, l', f2, hb2, hs2, hc2⟩ := G2.out Jn (by rw [HLEN.out]; exact hJlt)
                    rw [hsJ] at hs1
                    rw [hlJ] at hs2
                    cases hs1
                    cases hs2
                    rw [f1, f2]
                    have q1 : w2.cell? ⟨b1, o1 + Jn, none⟩ = some (.string s) := by rw [BW2.out.cell (by simpa using hb1)]; exact hc1
                    have q2 : w2.cell? ⟨b2, o2 + Jn, none⟩ = some (.string l) := by rw [BW2.out.cell (by simpa using hb2)]; exact hc2
                    clear hsJ hlJ f1 f2 hc1 hc2
                    go_wp2
                    go_ret
                    exact ⟨ret_bool (by simp), BB.out⟩
                  · have hJ1 : J = -1 := by have := (best_bd hBest).1; omega
                    subst hJ1
                    rw [best_pick_none hBest] at hzp
                    clear hBest
                    unfold ZPost at hzp
                    dsimp only at hzp
                    cases hu : url.toList.isEmpty
                    · rw [if_neg (by rw [hu]; decide)] at hzp
                      unfold redirectB at hzp
                      subst hzp
                      go_wp2
                      all_goals (go_ret; exact ⟨ret_bool (by simp), BB.out⟩)
                    · rw [if_pos hu] at hzp
                      obtain ⟨ea, rfl⟩ := hzp
                      go_wp2
                      go_ret
                      exact ⟨ret_bool (by simp), BB.out⟩
      · have hl2 : ((sb.length : Int) != (sl.length : Int)) = true := by rw [bne_iff_ne]; omega
        go_wp2
        go_ret
        exact ⟨rfl, Below.refl _ _⟩
    · go_wp2
      go_ret
      exact ⟨rfl, Below.refl _ _⟩
end Go.Proofs.Qxb6612389aFmt
