import Derived.Test.Qxb6612389aFmtEnd
import Derived.RegionTactic
import Derived.ChangeAlike
import Derived.OwnWalk
import Derived.Deep.QuietTactic
import Derived.BigQuiet
namespace Go.Proofs.Qxb6612389aFmt
open Go.ChangeShapes Go.WideShapes Go.ChangeAt Go.RowKit

/-- A row of pairs of strings that the call itself writes. -/
def PairRow (w : World) (g : Nat) (xs : List (ByteArray × ByteArray)) : Prop :=
  ∀ (i : Nat) p, xs[i]? = some p → w.cell? ⟨g, i * 2, none⟩ = some (.string p.1) ∧ w.cell? ⟨g, i * 2 + 1, none⟩ = some (.string p.2) ∧ w.frozen? ⟨g, i * 2, none⟩ = false ∧ w.frozen? ⟨g, i * 2 + 1, none⟩ = false

theorem PairRow.set {w : World} {g : Nat} {xs : List (ByteArray × ByteArray)} (h : PairRow w g xs) {k : Nat} (hk : k < xs.length) (s l : ByteArray) :
    PairRow ((w.setCell ⟨g, k * 2, none⟩ (.string s)).setCell ⟨g, k * 2 + 1, none⟩ (.string l)) g (xs.set k (s, l)) := by
  have ne : ∀ a b : Nat, a ≠ b → (⟨g, a, none⟩ : Addr) ≠ ⟨g, b, none⟩ := fun a b hab hh => hab (by injection hh)
  intro i x hx
  simp only [World.frozen?_setCell]
  have hold := h k _ (List.getElem?_eq_getElem hk)
  by_cases e : i = k
  · subst e
    rw [List.getElem?_set_self hk] at hx
    cases hx
    refine ⟨?_, ?_, hold.2.2.1, hold.2.2.2⟩
    · rw [World.cell?_setCell_other _ _ _ _ (ne _ _ (by omega))]
      exact World.cell?_setCell_same _ _ _ hold.1
    · refine World.cell?_setCell_same _ _ _ (u := .string xs[i].2) ?_
      rw [World.cell?_setCell_other _ _ _ _ (ne _ _ (by omega))]
      exact hold.2.1
  · rw [List.getElem?_set_ne (Ne.symm e)] at hx
    have hi := h i x hx
    refine ⟨?_, ?_, hi.2.2.1, hi.2.2.2⟩
    · rw [World.cell?_setCell_other _ _ _ _ (ne _ _ (by omega)), World.cell?_setCell_other _ _ _ _ (ne _ _ (by omega))]
      exact hi.1
    · rw [World.cell?_setCell_other _ _ _ _ (ne _ _ (by omega)), World.cell?_setCell_other _ _ _ _ (ne _ _ (by omega))]
      exact hi.2.1

theorem pairRow_made (w : World) (n : Nat) (t : TypeId) : PairRow (w.alloc (.cells (madeCells #[.string ⟨#[]⟩, .string ⟨#[]⟩] (n * 2)) t)) w.heap.size (List.replicate n (⟨#[]⟩, ⟨#[]⟩)) := by
  intro i x hx
  rw [List.getElem?_replicate] at hx
  by_cases hi : i < n
  · rw [if_pos hi] at hx
    cases hx
    have e1 : i * 2 < n * 2 := by omega
    have e2 : i * 2 + 1 < n * 2 := by omega
    have e3 : i * 2 % 2 = 0 := by omega
    have e4 : (i * 2 + 1) % 2 = 1 := by omega
    simp [go_sem, madeCells, e1, e2, e3, e4]
  · rw [if_neg hi] at hx
    cases hx

theorem zip_get {sb sl : List ByteArray} {k : Nat} {s l : ByteArray} (h1 : sb[k]? = some s) (h2 : sl[k]? = some l) : (sb.zip sl)[k]? = some (s, l) := by
  rw [List.getElem?_zip_eq_some]; exact ⟨h1, h2⟩

theorem make42 (n : Nat) (h : n ≤ 4096) (w : World) : (Instr.makeSlice 42 (.int .i64 (n : Int)) (.int .i64 (n : Int))).run Tryf.prog w = .ok (.slice (some ⟨w.heap.size, 0, none⟩) n n) (w.alloc (.cells (madeCells #[.string ⟨#[]⟩, .string ⟨#[]⟩] (n * 2)) 44)) := by
  have hinfo : (Tryf.prog.info? 44).map (fun i => (i.zero, i.size, i.bytes)) = some (some (.agg #[.string ⟨#[]⟩, .string ⟨#[]⟩]), 2, 32) := by kernel_rfl
  obtain ⟨i, hi, hzz⟩ := Option.map_eq_some_iff.1 hinfo
  simp only [Prod.mk.injEq] at hzz
  obtain ⟨hz, hs, hb⟩ := hzz
  have hr := run_make (P := Tryf.prog) w 42 44 i _ Tryf.underlying42 hi hz .i64 .i64 n n (by omega) (Int.le_refl _) (by rw [hb]; omega) (by omega)
  simp only [Int.toNat_natCast, hs] at hr
  exact hr

theorem Strs.below {w w' : World} {a : Option Addr} {ss : List ByteArray} (h : Strs w a ss) (hb : Below w.heap.size w w') : Strs w' a ss := by
  rcases h with h | ⟨b, o, ha, hlt, hc⟩
  · exact .inl h
  · exact .inr ⟨b, o, ha, Nat.lt_of_lt_of_le hlt hb.size, fun i x hx => by rw [hb.cell (p := ⟨b, o + i, none⟩) hlt]; exact hc i x hx⟩

theorem set_agree {α : Type} {xs ys : List α} {k : Nat} {v : α} (hk : k < xs.length) (h : ∀ j, j < k → xs[j]? = ys[j]?) (hv : ys[k]? = some v) : ∀ j, j < k + 1 → (xs.set k v)[j]? = ys[j]? := by
  intro j hj
  by_cases e : j = k
  · subst e; rw [List.getElem?_set_self hk, hv]
  · rw [List.getElem?_set_ne (Ne.symm e)]; exact h j (by omega)

/-- What 'ZZsignOnEndpoint' answers. -/
def ZPost (r : Option (ByteArray × ByteArray)) (url : ByteArray) (e : Ending) : Prop :=
  match r with
  | some p => e = .returned (.tuple #[.string p.1, .string p.2, .nilIface])
  | none => if url.toList.isEmpty = true then ∃ a, e = .returned (.tuple #[.string ⟨#[]⟩, .string ⟨#[]⟩, .iface 69 (.pointer (some a))])
      else e = .returned (.tuple #[.string redirectB, .string url, .nilIface])

theorem endPost_form {r : Option (ByteArray × ByteArray)} {url : ByteArray} {e : Ending} (h : EndPost r url e) : ∃ x y v, e = .returned (.tuple #[.agg #[.string x, .string y], v]) ∧ ZPost r url (.returned (.tuple #[.string x, .string y, v])) := by
  cases r with
  | some p => exact ⟨p.1, p.2, .nilIface, h, rfl⟩
  | none =>
    unfold EndPost at h
    dsimp only at h
    by_cases hu : url.toList.isEmpty = true
    · rw [if_pos hu] at h
      obtain ⟨a, ha⟩ := h
      exact ⟨_, _, _, ha, by unfold ZPost; dsimp only; rw [if_pos hu]; exact ⟨a, rfl⟩⟩
    · rw [if_neg hu] at h
      exact ⟨_, _, _, h, by unfold ZPost; dsimp only; rw [if_neg hu]⟩

set_option maxHeartbeats 800000 in
set_option maxRecDepth 20000 in
theorem zsign_any (a1 a2 a3 : Option Addr) (c1 c2 c3 : Nat) (sb sl ss : List ByteArray) (url : ByteArray) (w : World)
    (h1 : Strs w a1 sb) (h2 : Strs w a2 sl) (h3 : Strs w a3 ss) (hl1 : sb.length ≤ 4096) (hl2 : sl.length = sb.length) (hl3 : ss.length ≤ 4096) (hz : ssum ss ≤ 1048576) :
    Calls Tryf.prog 7 #[.string url, .slice a1 sb.length c1, .slice a2 sl.length c2, .slice a3 ss.length c3] w fun e w' => ZPost (pick (sb.zip sl) ss) url e ∧ Below w.heap.size w w' := by
  have HMK := hide (make42 sb.length hl1)
  have get : ∀ {a : Option Addr} {xs : List ByteArray}, Strs w a xs → ∀ k, k < xs.length → ∃ b o s, a = some ⟨b, o, none⟩ ∧ b < w.heap.size ∧ xs[k]? = some s ∧ w.cell? ⟨b, o + k, none⟩ = some (.string s) := by
    intro a xs hs k hk
    rcases hs with rfl | ⟨b, o, ha, hb, hc⟩
    · simp at hk
    · exact ⟨b, o, xs[k], ha, hb, by simp [hk], hc k _ (by simp [hk])⟩
  have G1 := hide (get h1)
  have G2 := hide (get h2)
  clear get h1 h2
  rw [hl2] at G2 ⊢
  have HZL : Hid ((sb.zip sl).length = sb.length) := by show _ = _; rw [List.length_zip, hl2, Nat.min_self]
  have HL2 := hide hl2
  clear hl2
  generalize hn : sb.length = n at *
  have HN := hide hn
  clear hn
  have hmk := HMK.out
  go_enter Tryf.func7, Tryf.ntmps7
  go_wp2_with fail
  clear hmk HMK
  go_loopw [13] (fun i wr => ∃ (k : Nat) (xs : List (ByteArray × ByteArray)), k ≤ n ∧ i = .int .i64 k ∧ xs.length = n ∧ (∀ j, j < k → xs[j]? = (sb.zip sl)[j]?) ∧ PairRow wr (w.heap.size + 1) xs ∧ Below w.heap.size w wr ∧ wr.cell? ⟨w.heap.size, 4, none⟩ = some (.string url) ∧ w.heap.size + 1 < wr.heap.size) (fun i _ => n - (intOf i).toNat)
  case atStart =>
    refine ⟨0, List.replicate n (⟨#[]⟩, ⟨#[]⟩), Nat.zero_le _, rfl, by simp, fun j hj => absurd hj (Nat.not_lt_zero _), ?_, ((Below.refl _ w).alloc (Nat.le_refl _) _).alloc (by simp) _, by simp [go_sem], by simp⟩
    have := pairRow_made (w.alloc (.cells #[.pointer none, .slice none 0 0, .string ⟨#[]⟩, .string ⟨#[]⟩, .string url, .bool false, .pointer none, .pointer none, .int .i64 0, .bool false, .nilFunc, .nilIface, .slice none 0 0, .bool false, .slice none 0 0, .int .i64 0, .string ⟨#[]⟩, .bool false, .string ⟨#[]⟩, .string ⟨#[]⟩, .slice none 0 0, .bool false] 41)) n 44
    simpa using this
  case round =>
    obtain ⟨k, xs, hk, rfl, hxl, hxe, hrow, hbel, hurl, hzz⟩ := hrel
    have HX := hide hxl
    have HE := hide hxe
    have HR := hide hrow
    have HB := hide hbel
    clear hxl hxe hrow hbel
    by_cases hlt : k < n
    · obtain ⟨b1, o1, s, e1, hb1, hs1, hc1⟩ := G1.out k hlt
      obtain ⟨b2, o2, l, e2, hb2, hs2, hc2⟩ := G2.out k hlt
      rw [e1, e2]
      clear e1 e2
      have q1 : wr.cell? ⟨b1, o1 + k, none⟩ = some (.string s) := by rw [HB.out.cell (by simpa using hb1)]; exact hc1
      have q2 : wr.cell? ⟨b2, o2 + k, none⟩ = some (.string l) := by rw [HB.out.cell (by simpa using hb2)]; exact hc2
      have HZ := hide (zip_get hs1 hs2)
      have hkx : k < xs.length := by have := HX.out; omega
      have hold := HR.out k xs[k] (List.getElem?_eq_getElem hkx)
      obtain ⟨g1, g2, g3, g4⟩ := hold
      clear hc1 hc2 hs1 hs2
      go_wp2_with fail
      go_region
      all_goals
        go_wp2
        go_roundw
        case rel =>
          refine ⟨k + 1, xs.set k (s, l), by omega, by go_num, by rw [List.length_set]; exact HX.out, set_agree hkx HE.out HZ.out, HR.out.set hkx s l, ((HB.out.setCell (by simp) _).setCell (by simp) _).drew, ?_, by simpa using hzz⟩
          show ((wr.setCell ⟨w.heap.size + 1, k * 2, none⟩ (.string s)).setCell ⟨w.heap.size + 1, k * 2 + 1, none⟩ (.string l)).cell? ⟨w.heap.size, 4, none⟩ = some (.string url)
          have hne : ∀ c d : Nat, (⟨w.heap.size + 1, c, none⟩ : Addr) ≠ ⟨w.heap.size, d, none⟩ := fun c d hh => by injection hh with h1 h2; omega
          rw [World.cell?_setCell_other _ _ _ _ (hne _ _), World.cell?_setCell_other _ _ _ _ (hne _ _)]
          exact hurl
        case measure => simp [intOf]; omega
    · have hxs : xs = sb.zip sl := by
        apply List.ext_getElem?
        intro j
        by_cases hj : j < k
        · exact HE.out j hj
        · rw [List.getElem?_eq_none (by have := HX.out; omega), List.getElem?_eq_none (by have := HZL.out; omega)]
      subst hxs
      go_wp2_with fail
      have hb2 : Below w.heap.size w (wr.alloc (.cells #[.string ⟨#[]⟩, .slice none 0 0, .slice (some ⟨w.heap.size + 1, 0, none⟩) n n, .int .u64 0, .int .i64 0, .pointer none] 54)) := HB.out.alloc HB.out.size _
      refine (end_any w.heap.size wr.heap.size (w.heap.size + 1) a3 c3 ss (sb.zip sl) url _ (h3.below hb2) hl3 (by rw [HZL.out]; exact hl1) hz (by simp; omega) (by simp) (by simp; omega) ?_ ?_ ?_).mono ?_
      · rw [World.cell?_alloc_lt _ _ _ (by show w.heap.size < _; omega)]; exact hurl
      · rw [HZL.out]; simp [go_sem]
      · intro j p hp
        have hold := HR.out j p hp
        rw [World.cell?_alloc_lt _ _ _ (by show w.heap.size + 1 < _; omega), World.cell?_alloc_lt _ _ _ (by show w.heap.size + 1 < _; omega)]
        exact ⟨hold.1, hold.2.1⟩
      · rintro e w2 ⟨he, hb3⟩
        obtain ⟨x, y, v, rfl, hzp⟩ := endPost_form he
        have HZP := hide hzp
        have HB2 : Hid (Below w.heap.size w w2) := hb2.trans (hb3.mono hb2.size)
        clear he hzp hb2 hb3 HR HE HX HB hurl
        go_wp2
        go_region
        all_goals
          go_wp2
          go_ret3
          exact ⟨HZP.out, (HB2.out.alloc HB2.out.size _).drew⟩
end Go.Proofs.Qxb6612389aFmt
