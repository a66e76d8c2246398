import Derived.Test.Qxb6612389aFmtCopy
import Derived.Test.Qxb6612389aFmtPlain2
namespace Go.Proofs.Qxb6612389aFmt
open Go.ChangeShapes Go.WideShapes Go.ChangeAt Go.RowKit

set_option maxHeartbeats 1600000 in
set_option maxRecDepth 20000 in
theorem refuses_walk (a1 a2 a3 : Option Addr) (c1 c2 c3 : Nat) (sb sl ss : List ByteArray) (url : ByteArray) (w : World)
    (h0 : url.size ≤ maxLen) (h1 : Strs w a1 sb) (h2 : Strs w a2 sl) (h3 : Strs w a3 ss)
    (l1 : sb.length ≤ maxLen) (l2 : sl.length ≤ maxLen) (l3 : ss.length ≤ maxLen)
    (z1 : ∀ s ∈ sb, s.size ≤ maxLen) (z2 : ∀ s ∈ sl, s.size ≤ maxLen) (z3 : ∀ s ∈ ss, s.size ≤ maxLen) :
    Calls Tryf.prog 4 #[.string url, .slice a1 sb.length c1, .slice a2 sl.length c2, .slice a3 ss.length c3] w fun e w' => e = .returned (.bool true) ∧ Below w.heap.size w w' := by
  have HZ5 := hide (zzBytes8_any url a1 a2 a3 c1 c2 c3 sb sl ss w h0 h1 h2 h3 l1 l2 l3 z1 z2 z3)
  have Z1 := hide z1
  have Z2 := hide z2
  have Z3 := hide z3
  have S1 := hide h1
  have S2 := hide h2
  have S3 := hide h3
  clear h1 h2 h3 z1 z2 z3
  unfold maxLen at h0 l1 l2 l3
  go_enter Tryf.func4, Tryf.ntmps4
  go_wp2_with fail
  refine HZ5.out.mono ?_
  rintro e w' ⟨⟨r, rfl⟩, rfl⟩
  clear HZ5
  cases r
  · go_wp2
    go_ret
    exact ⟨rfl, Below.refl _ _⟩
  · go_wp2_with fail
    any_goals (go_ret; exact ⟨rfl, Below.refl _ _⟩)
    have q0 : (url.size : Int) ≤ 1048576 := by omega
    have q1 : (sb.length : Int) ≤ 4096 := by omega
    have q2 : (sl.length : Int) ≤ 4096 := by omega
    have q3 : (ss.length : Int) ≤ 4096 := by omega
    refine (strBytes_any a1 c1 sb w S1.out (by omega) Z1.out).mono ?_
    rintro e w' ⟨n1, rfl, p11, p12, p13, rfl⟩
    clear p13 Z1
    go_wp2_with fail
    refine (strBytes_any a2 c2 sl w S2.out (by omega) Z2.out).mono ?_
    rintro e w' ⟨n2, rfl, p21, p22, p23, rfl⟩
    clear p23 Z2
    go_wp2_with fail
    refine (strBytes_any a3 c3 ss w S3.out (by omega) Z3.out).mono ?_
    rintro e w' ⟨n3, rfl, p31, p32, p33, rfl⟩
    have P33 := hide p33
    clear p33 Z3
    by_cases hsum : (url.size : Int) + n1 + n2 + n3 ≤ 1048576
    · have HS3 : Hid (ssum ss ≤ 1048576) := by
        show ssum ss ≤ 1048576
        have := P33.out (by omega)
        omega
      clear P33
      by_cases hlen : sl.length = sb.length
      · have hl2 : ((sb.length : Int) != (sl.length : Int)) = false := by rw [bne_eq_false_iff_eq]; omega
        have hnil := fun (wx : World) (ax : Option Addr) (nx cx : Nat) => run_neq_slice_nil_any (P := Tryf.prog) wx 22 9 ax nx cx 0 0 Tryf.underlying22
        have HLEN := hide hlen
        go_upto_if 63 with fail
        clear hlen hl2
        go_cut [1] (fun s1 wx => ∃ a c, s1 = Value.slice a sb.length c ∧ Strs wx a sb ∧ Below w.heap.size w wx)
        case first =>
          cases a1 with
          | none =>
            go_wp2
            go_meet
            exact ⟨_, _, rfl, S1.out, Below.refl _ _⟩
          | some x =>
            have hmk := make22 sb.length (by omega)
            obtain ⟨w1, hcp, hst, hbl⟩ := copy_strs (some x) c1 sb w S1.out
            have HST := hide hst
            have HBL := hide hbl
            clear hst hbl
            go_wp2
            go_meet
            exact ⟨_, _, rfl, HST.out, HBL.out⟩
        case rest =>
          clear S1
          obtain ⟨a1', c1', rfl, hst1, hbl1⟩ := hcut
          obtain ⟨wb, hwb⟩ : ∃ wb, wb = wc := ⟨_, rfl⟩
          subst hwb
          have S1 := hide hst1
          have B1 := hide hbl1
          have S2' := hide (S2.out.below hbl1)
          have S3' := hide (S3.out.below hbl1)
          clear hst1 hbl1 S2 S3
          go_upto_if 72 with fail
          go_cut [2] (fun s1 wx => ∃ a c, s1 = Value.slice a sb.length c ∧ Strs wx a sl ∧ Below wb.heap.size wb wx)
          case first =>
            cases a2 with
            | none =>
              go_wp2
              go_meet
              exact ⟨_, _, rfl, S2'.out, Below.refl _ _⟩
            | some x =>
              have hmk := make22 sb.length (by omega)
              obtain ⟨w1, hcp, hst, hbl⟩ := copy_strs (some x) c2 sl wb S2'.out
              rw [HLEN.out] at hcp
              have HST := hide hst
              have HBL := hide hbl
              clear hst hbl
              go_wp2
              go_meet
              exact ⟨_, _, rfl, HST.out, HBL.out⟩
          case rest =>
            clear S2'
            obtain ⟨a2', c2', rfl, hst2, hbl2⟩ := hcut
            obtain ⟨wd, hwd⟩ : ∃ wd, wd = wc := ⟨_, rfl⟩
            subst hwd
            have S2 := hide hst2
            have S1' := hide (S1.out.below hbl2)
            have S3 := hide (S3'.out.below hbl2)
            have B2 := hide (B1.out.trans (hbl2.mono B1.out.size))
            clear hst2 hbl2 S1 S3' B1
            go_upto_if 81 with fail
            go_cut [3] (fun s1 wx => ∃ a c, s1 = Value.slice a ss.length c ∧ Strs wx a ss ∧ Below wd.heap.size wd wx)
            case first =>
              cases a3 with
              | none =>
                go_wp2
                go_meet
                exact ⟨_, _, rfl, S3.out, Below.refl _ _⟩
              | some x =>
                have hmk := make22 ss.length (by omega)
                obtain ⟨w1, hcp, hst, hbl⟩ := copy_strs (some x) c3 ss wd S3.out
                have HST := hide hst
                have HBL := hide hbl
                clear hst hbl
                go_wp2
                go_meet
                exact ⟨_, _, rfl, HST.out, HBL.out⟩
            case rest =>
              clear S3
              obtain ⟨a3', c3', rfl, hst3, hbl3⟩ := hcut
              obtain ⟨we, hwe⟩ : ∃ we, we = wc := ⟨_, rfl⟩
              subst hwe
              have hbt := B2.out.trans (hbl3.mono B2.out.size)
              have get : ∀ {a : Option Addr} {xs : List ByteArray}, Strs we a xs → ∀ k, k < xs.length → ∃ b o s, a = some ⟨b, o, none⟩ ∧ b < we.heap.size ∧ xs[k]? = some s ∧ we.cell? ⟨b, o + k, none⟩ = some (.string s) := by
                intro a xs hs k hk
                rcases hs with rfl | ⟨b, o, ha, hb, hc⟩
                · simp at hk
                · exact ⟨b, o, xs[k], ha, hb, by simp [hk], hc k _ (by simp [hk])⟩
              have hs1 := S1'.out.below hbl3
              have hs2 := S2.out.below hbl3
              have T1 := hide hs1
              have T2 := hide hs2
              have T3 := hide hst3
              have BT := hide hbt
              have G1 := hide (get hs1)
              have G3 := hide (get hst3)
              have G2 := hide (get hs2)
              clear get hs1 hs2 hst3 hbl3 hbt S1' S2 B2 hnil
              generalize hn1 : sb.length = n1 at *
              generalize hn3 : ss.length = n3 at *
              have HN1 := hide hn1
              have HN3 := hide hn3
              clear hn1 hn3
              go_wp2_with fail
              go_loopw [12, 13] (fun vs vi wr => ∃ (k : Nat) (sv : Bool), k ≤ n3 ∧ vi = .int .i64 k ∧ vs = .bool sv ∧ Srv (sb.zip sl) ss k sv ∧ Below we.heap.size we wr) (fun vs vi _ => n3 - (intOf vi).toNat)
              case atStart => exact ⟨0, false, Nat.zero_le _, rfl, rfl, srv_start _ _, Below.refl _ _⟩
              case round =>
                obtain ⟨k, sv, hk, rfl, rfl, hsrv, hbw⟩ := hrel
                have HSR := hide hsrv
                have HBW := hide hbw
                clear hsrv hbw
                cases sv with
                | true =>
                  have e1 := HN1.out
                  have e3 := HN3.out
                  subst e1 e3
                  have hz := zsign_any a1' a2' a3' c1' c2' c3' sb sl ss url wr (T1.out.below HBW.out) (T2.out.below HBW.out) (T3.out.below HBW.out) (by omega) HLEN.out (by omega) HS3.out
                  rw [HLEN.out] at hz
                  have HZ := hide hz
                  clear hz
                  obtain ⟨p, hpk⟩ := srv_true HSR.out
                  have HPK := hide hpk
                  clear hpk
                  by_cases hlt : k < ss.length
                  all_goals
                    go_wp2_with fail
                    refine HZ.out.mono ?_
                    rintro e w2 ⟨hzp, hb2⟩
                    have BW2 : Hid (Below we.heap.size we w2) := HBW.out.trans (hb2.mono HBW.out.size)
                    have BB : Hid (Below w.heap.size w w2) := BT.out.trans (BW2.out.mono BT.out.size)
                    clear HZ hb2 HBW
                    rw [HPK.out] at hzp
                    have he : e = .returned (.tuple #[.string p.1, .string p.2, .nilIface]) := hzp
                    subst he
                    clear hzp
                    have HIN := hide (pick_inv HPK.out)
                    go_wp2_with fail
                    go_loopw [18, 19] (fun vl vi wr => ∃ m : Nat, m ≤ ss.length ∧ vi = .int .i64 m ∧ vl = .bool false ∧ (∀ i x, i < m → ss[i]? = some x → (x.toList == p.1.toList) = false) ∧ wr = w2) (fun _ vi _ => ss.length - (intOf vi).toNat)
                    case atStart => exact ⟨0, Nat.zero_le _, rfl, rfl, fun _ _ h => absurd h (Nat.not_lt_zero _), rfl⟩
                    case round =>
                      obtain ⟨m, hm, rfl, rfl, hno, rfl⟩ := hrel
                      have HNO := hide hno
                      clear hno
                      by_cases hmt : m < ss.length
                      · obtain ⟨b3, o3, x, e3, hb3, hs3, hc3⟩ := G3.out m hmt
                        subst e3
                        have q3 : wr.cell? ⟨b3, o3 + m, none⟩ = some (.string x) := by rw [BW2.out.cell (by simpa using hb3)]; exact hc3
                        have HX3 := hide hs3
                        clear hs3 hc3
                        cases hx : (x.toList == p.1.toList)
                        · have HX := hide hx
                          go_wp2
                          refine ⟨⟨m + 1, by omega, by go_num, rfl, fun i y hi hy => ?_, by trivial⟩, by simp [intOf]; omega⟩
                          by_cases e : i = m
                          · subst e
                            have h2 := HX3.out
                            rw [hy] at h2
                            cases h2
                            exact HX.out
                          · exact HNO.out i y (by omega) hy
                        · go_wp2_with fail
                          go_loopw [20] (fun vj wr' => ∃ m : Nat, m ≤ sb.length ∧ vj = .int .i64 m ∧ (∀ j q, j < m → (sb.zip sl)[j]? = some q → (q.1.toList == p.1.toList && q.2.toList == p.2.toList) = false) ∧ wr' = wr) (fun vj _ => sb.length - (intOf vj).toNat)
                          case atStart => exact ⟨0, Nat.zero_le _, rfl, fun _ _ h => absurd h (Nat.not_lt_zero _), rfl⟩
                          case round =>
                            obtain ⟨m2, hm2, rfl, hno2, hww⟩ := hrel
                            subst hww
                            have HN2 := hide hno2
                            clear hno2
                            by_cases hmt2 : m2 < sb.length
                            · obtain ⟨b1, o1, s, e1, hb1, hs1, hc1⟩ := G1.out m2 hmt2
                              obtain ⟨b2, o2, l, e2, hb2, hs2, hc2⟩ := G2.out m2 (by rw [HLEN.out]; exact hmt2)
                              subst e1 e2
                              have HZG := hide (zip_get hs1 hs2)
                              have q1 : wr.cell? ⟨b1, o1 + m2, none⟩ = some (.string s) := by rw [BW2.out.cell (by simpa using hb1)]; exact hc1
                              have q2 : wr.cell? ⟨b2, o2 + m2, none⟩ = some (.string l) := by rw [BW2.out.cell (by simpa using hb2)]; exact hc2
                              clear hs1 hs2 hc1 hc2
                              have nxt : (s.toList == p.1.toList && l.toList == p.2.toList) = false → ∀ j q, j < m2 + 1 → (sb.zip sl)[j]? = some q → (q.1.toList == p.1.toList && q.2.toList == p.2.toList) = false := by
                                intro hf j q hj hq
                                by_cases e : j = m2
                                · subst e
                                  have h2 := HZG.out
                                  rw [hq] at h2
                                  cases h2
                                  exact hf
                                · exact HN2.out j q (by omega) hq
                              have NX := hide nxt
                              clear nxt
                              cases hx1 : (s.toList == p.1.toList)
                              · have HX1 := hide hx1
                                go_wp2
                                refine ⟨⟨m2 + 1, by omega, by go_num, NX.out (by rw [HX1.out]; rfl), by trivial⟩, by simp [intOf]; omega⟩
                              · cases hx2 : (l.toList == p.2.toList)
                                · have HX2 := hide hx2
                                  go_wp2
                                  refine ⟨⟨m2 + 1, by omega, by go_num, NX.out (by rw [HX2.out, Bool.and_false]), by trivial⟩, by simp [intOf]; omega⟩
                                · go_wp2
                                  go_ret
                                  exact ⟨rfl, BB.out⟩
                            · exfalso
                              obtain ⟨_, j, hj⟩ := HIN.out
                              have := HN2.out j p (by have := (List.getElem?_eq_some_iff.1 (zip_some hj).1).1; omega) hj
                              simp at this
                      · exfalso
                        obtain ⟨⟨i, x, hx, hmm⟩, _⟩ := HIN.out
                        rw [HNO.out i x (by have := (List.getElem?_eq_some_iff.1 hx).1; omega) hx] at hmm
                        cases hmm
                | false =>
                  by_cases hlt : k < n3
                  · obtain ⟨b3, o3, x, e3, hb3, hs3, hc3⟩ := G3.out k hlt
                    subst e3
                    have HX3 := hide hs3
                    have HC3 := hide hc3
                    clear hs3 hc3
                    go_wp2_with fail
                    go_loopw [12, 14] (fun vs vj wr => ∃ m : Nat, m ≤ n1 ∧ vj = .int .i64 m ∧ vs = .bool false ∧ (∀ j s, j < m → sb[j]? = some s → (x.toList == s.toList) = false) ∧ Below we.heap.size we wr) (fun _ vj _ => n1 - (intOf vj).toNat)
                    case atStart => exact ⟨0, Nat.zero_le _, rfl, rfl, fun _ _ h => absurd h (Nat.not_lt_zero _), HBW.out⟩
                    case round =>
                      clear HBW
                      obtain ⟨m, hm, rfl, rfl, hno, hbw⟩ := hrel
                      have HNO := hide hno
                      have HBW := hide hbw
                      clear hno hbw
                      by_cases hmt : m < n1
                      · obtain ⟨b1, o1, s, e1, hb1, hs1, hc1⟩ := G1.out m hmt
                        subst e1
                        have q1 : wr.cell? ⟨b1, o1 + m, none⟩ = some (.string s) := by rw [HBW.out.cell (by simpa using hb1)]; exact hc1
                        have q3 : wr.cell? ⟨b3, o3 + k, none⟩ = some (.string x) := by rw [HBW.out.cell (by simpa using hb3)]; exact HC3.out
                        have HS1 := hide hs1
                        clear hs1 hc1
                        cases hx : (x.toList == s.toList)
                        · have HX := hide hx
                          go_wp2_with fail
                          go_region
                          all_goals
                            go_wp2
                            go_roundw
                            case rel =>
                              refine ⟨m + 1, by omega, by go_num, rfl, fun j y hj hy => ?_, HBW.out.drew⟩
                              by_cases e : j = m
                              · subst e
                                have h2 := HS1.out
                                rw [hy] at h2
                                cases h2
                                exact HX.out
                              · exact HNO.out j y (by omega) hy
                            case measure => simp [intOf]; omega
                        · have HX := hide hx
                          have HB2 : Hid (Srv (sb.zip sl) ss (k + 1) true) := by
                            obtain ⟨b2, o2, l, e2, hb2, hs2, hc2⟩ := G2.out m (by rw [HLEN.out]; exact hmt)
                            exact .inr ⟨rfl, pick_ne HX3.out (zip_get HS1.out hs2) HX.out⟩
                          go_wp2_with fail
                          go_region
                          all_goals
                            go_wp2
                            refine ⟨⟨k + 1, true, by omega, by go_num, rfl, HB2.out, HBW.out.drew⟩, ?_⟩
                            simp [intOf]; omega
                      · have HNR : Hid (serveAt (sb.zip sl) x = none) := by
                          refine serve_none_of fun j p hp => ?_
                          obtain ⟨h1, _⟩ := zip_some hp
                          rw [beq_sym]
                          exact HNO.out j p.1 (by have := (List.getElem?_eq_some_iff.1 h1).1; have := HN1.out; omega) h1
                        have HB2 := hide (srv_next HSR.out HX3.out HNR.out)
                        go_wp2
                        refine ⟨⟨k + 1, false, by omega, by go_num, rfl, HB2.out, HBW.out⟩, ?_⟩
                        simp [intOf]; omega
                  · have hkn : k = n3 := by omega
                    subst hkn
                    have e1 := HN1.out
                    have e3 := HN3.out
                    subst e1 e3
                    have hz := zsign_any a1' a2' a3' c1' c2' c3' sb sl ss url wr (T1.out.below HBW.out) (T2.out.below HBW.out) (T3.out.below HBW.out) (by omega) HLEN.out (by omega) HS3.out
                    rw [HLEN.out] at hz
                    have HZ := hide hz
                    clear hz
                    have HPK := hide (srv_end HSR.out)
                    go_wp2_with fail
                    refine HZ.out.mono ?_
                    rintro e w2 ⟨hzp, hb2⟩
                    have BW2 : Hid (Below we.heap.size we w2) := HBW.out.trans (hb2.mono HBW.out.size)
                    have BB : Hid (Below w.heap.size w w2) := BT.out.trans (BW2.out.mono BT.out.size)
                    clear HZ hb2 HBW
                    rw [HPK.out] at hzp
                    unfold ZPost at hzp
                    dsimp only at hzp
                    cases hu : url.toList.isEmpty
                    · rw [if_neg (by rw [hu]; decide)] at hzp
                      unfold redirectB at hzp
                      subst hzp
                      go_wp2
                      all_goals (go_ret; exact ⟨ret_bool (by simp), BB.out⟩)
                    · rw [if_pos hu] at hzp
                      obtain ⟨ea, rfl⟩ := hzp
                      go_wp2
                      go_ret
                      exact ⟨ret_bool (by simp), BB.out⟩
      · have hl2 : ((sb.length : Int) != (sl.length : Int)) = true := by rw [bne_iff_ne]; omega
        go_wp2
        go_ret
        exact ⟨rfl, Below.refl _ _⟩
    · go_wp2
      go_ret
      exact ⟨rfl, Below.refl _ _⟩
end Go.Proofs.Qxb6612389aFmt
