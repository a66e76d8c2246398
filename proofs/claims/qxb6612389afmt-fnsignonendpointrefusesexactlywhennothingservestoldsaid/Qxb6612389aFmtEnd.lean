import Derived.Test.Qxb6612389aFmtZz
import Derived.Test.Qxb6612389aFmtShelf
import Derived.Deep.OwnRows
namespace Go.Proofs.Qxb6612389aFmt
open Go.ChangeShapes Go.WideShapes Go.ChangeAt Go.RowKit

/-- The service that serves a binding: the first one listed. -/
def serveAt (svc : List (ByteArray × ByteArray)) (b : ByteArray) : Option (ByteArray × ByteArray) := svc.find? (fun p => p.1.toList == b.toList)
/-- The endpoint that is picked, if any. -/
def pick (svc : List (ByteArray × ByteArray)) : List ByteArray → Option (ByteArray × ByteArray)
  | [] => none
  | b :: r => match serveAt svc b with | some p => some p | none => pick svc r

def eRow (w : World) (bs : Nat) (svc : List (ByteArray × ByteArray)) : Prop :=
  ∀ (j : Nat) p, svc[j]? = some p → w.cell? ⟨bs, j * 2, none⟩ = some (.string p.1) ∧ w.cell? ⟨bs, j * 2 + 1, none⟩ = some (.string p.2)

theorem drop_cons {α : Type} {l : List α} {k : Nat} {x : α} (h : l[k]? = some x) : l.drop k = x :: l.drop (k + 1) := by
  obtain ⟨hk, rfl⟩ := List.getElem?_eq_some_iff.1 h
  exact List.drop_eq_getElem_cons hk
theorem pick_hit {svc : List (ByteArray × ByteArray)} {ss : List ByteArray} {k : Nat} {s : ByteArray} {p : ByteArray × ByteArray} (h : ss[k]? = some s) (hp : serveAt svc s = some p) : pick svc (ss.drop k) = some p := by
  rw [drop_cons h, pick, hp]
theorem pick_miss {svc : List (ByteArray × ByteArray)} {ss : List ByteArray} {k : Nat} {s : ByteArray} (h : ss[k]? = some s) (hp : serveAt svc s = none) : pick svc (ss.drop k) = pick svc (ss.drop (k + 1)) := by
  rw [drop_cons h, pick, hp]
theorem serve_hit {svc : List (ByteArray × ByteArray)} {j : Nat} {s : ByteArray} {p : ByteArray × ByteArray} (h : svc[j]? = some p) (hp : (p.1.toList == s.toList) = true) : serveAt (svc.drop j) s = some p := by
  rw [drop_cons h, serveAt, List.find?_cons, hp]
theorem serve_miss {svc : List (ByteArray × ByteArray)} {j : Nat} {s : ByteArray} {p : ByteArray × ByteArray} (h : svc[j]? = some p) (hp : (p.1.toList == s.toList) = false) : serveAt (svc.drop j) s = serveAt (svc.drop (j + 1)) s := by
  rw [drop_cons h, serveAt, List.find?_cons, hp, serveAt]

def redirectB : ByteArray := ⟨#[117, 114, 110, 58, 111, 97, 115, 105, 115, 58, 110, 97, 109, 101, 115, 58, 116, 99, 58, 83, 65, 77, 76, 58, 50, 46, 48, 58, 98, 105, 110, 100, 105, 110, 103, 115, 58, 72, 84, 84, 80, 45, 82, 101, 100, 105, 114, 101, 99, 116]⟩

/-- What 'signOnEndpoint' answers. -/
def EndPost (r : Option (ByteArray × ByteArray)) (url : ByteArray) (e : Ending) : Prop :=
  match r with
  | some p => e = .returned (.tuple #[.agg #[.string p.1, .string p.2], .nilIface])
  | none => if url.toList.isEmpty = true then ∃ a, e = .returned (.tuple #[.agg #[.string ⟨#[]⟩, .string ⟨#[]⟩], .iface 69 (.pointer (some a))])
      else e = .returned (.tuple #[.agg #[.string redirectB, .string url], .nilIface])
theorem endPost_some {p : ByteArray × ByteArray} {r : Option (ByteArray × ByteArray)} {url : ByteArray} (h : r = some p) : EndPost r url (.returned (.tuple #[.agg #[.string p.1, .string p.2], .nilIface])) := by
  rw [h]; rfl

/-- A row of strings that the call itself writes. -/
def StrRow (w : World) (g : Nat) (xs : List ByteArray) : Prop :=
  ∀ (i : Nat) x, xs[i]? = some x → w.cell? ⟨g, i, none⟩ = some (.string x) ∧ w.frozen? ⟨g, i, none⟩ = false

theorem StrRow.set {w : World} {g : Nat} {xs : List ByteArray} (h : StrRow w g xs) {k : Nat} (hk : k < xs.length) (y : ByteArray) : StrRow (w.setCell ⟨g, k, none⟩ (.string y)) g (xs.set k y) := by
  intro i x hx
  by_cases e : i = k
  · subst e
    rw [List.getElem?_set_self hk] at hx
    cases hx
    exact ⟨World.cell?_setCell_same _ _ _ (h i _ (List.getElem?_eq_getElem hk)).1, by rw [World.frozen?_setCell]; exact (h i _ (List.getElem?_eq_getElem hk)).2⟩
  · rw [List.getElem?_set_ne (Ne.symm e)] at hx
    refine ⟨?_, by rw [World.frozen?_setCell]; exact (h i x hx).2⟩
    rw [World.cell?_setCell_other _ _ _ _ (fun hh => e (by injection hh with _ h2; exact h2.symm))]
    exact (h i x hx).1

theorem strRow_made (w : World) (n : Nat) : StrRow (w.alloc (.cells (madeCells #[.string ⟨#[]⟩] n) 9)) w.heap.size (List.replicate n ⟨#[]⟩) := by
  intro i x hx
  rw [List.getElem?_replicate] at hx
  by_cases hi : i < n
  · rw [if_pos hi] at hx
    cases hx
    simp [go_sem, madeCells, hi, Nat.mod_one]
  · rw [if_neg hi] at hx
    cases hx

theorem trim_size (s : ByteArray) (p : List UInt8) : (⟨(Lib.trimPrefix s.data.toList p).toArray⟩ : ByteArray).size ≤ s.size := by
  show (Lib.trimPrefix s.data.toList p).toArray.size ≤ s.data.size
  unfold Lib.trimPrefix
  split
  · simp
  · simp

theorem tail_len (xs : List ByteArray) (sep : List UInt8) (B : Nat) (h : ∀ x ∈ xs, x.size ≤ B) : (Lib.joinTail sep (xs.map (·.data.toList))).length ≤ xs.length * (B + sep.length) := by
  induction xs with
  | nil => simp [Lib.joinTail]
  | cons a r ih =>
    have h1 := ih (fun x hx => h x (List.mem_cons_of_mem _ hx))
    have h2 : a.data.size ≤ B := h a List.mem_cons_self
    simp only [Lib.joinTail, List.map_cons, List.flatten_cons, List.length_append, List.length_cons] at h1 ⊢
    rw [Nat.succ_mul]
    have : a.data.toList.length = a.data.size := by simp
    omega

theorem join_len (xs : List ByteArray) (sep : ByteArray) (hn : xs.length ≤ 4096) (hs : sep.size ≤ 16) (h : ∀ x ∈ xs, x.size ≤ 1048576) : (Lib.join (xs.map (·.data.toList)) sep.data.toList).length ≤ 140737488355328 := by
  cases xs with
  | nil => simp [Lib.join]
  | cons a r =>
    rw [List.map_cons, Lib.join_cons, List.length_append]
    have h1 := tail_len r sep.data.toList 1048576 (fun x hx => h x (List.mem_cons_of_mem _ hx))
    have h2 : a.data.size ≤ 1048576 := h a List.mem_cons_self
    have h3 : a.data.toList.length = a.data.size := by simp
    have h4 : sep.data.toList.length ≤ 16 := by simpa using hs
    have h5 : r.length * (1048576 + sep.data.toList.length) ≤ 4096 * 1048592 := Nat.mul_le_mul (by simp at hn; omega) (by omega)
    omega

theorem size_le_ssum {ss : List ByteArray} {s : ByteArray} {k : Nat} (h : ss[k]? = some s) : s.size ≤ ssum ss := by
  have h1 := ssum_take h
  have h2 := ssum_le ss (k + 1)
  omega

set_option maxHeartbeats 800000 in
set_option maxRecDepth 20000 in
theorem end_any (bp bi bs : Nat) (a : Option Addr) (cap : Nat) (ss : List ByteArray) (svc : List (ByteArray × ByteArray)) (url : ByteArray) (w : World)
    (hs : Strs w a ss) (hl : ss.length ≤ 4096) (hm : svc.length ≤ 4096) (hz : ssum ss ≤ 1048576)
    (hbp : bp < w.heap.size) (hbi : bi < w.heap.size) (hbs : bs < w.heap.size)
    (hu : w.cell? ⟨bp, 4, none⟩ = some (.string url)) (hv : w.cell? ⟨bi, 2, none⟩ = some (.slice (some ⟨bs, 0, none⟩) svc.length svc.length)) (he : eRow w bs svc) :
    Calls Tryf.prog 9 #[.pointer (some ⟨bp, 0, none⟩), .pointer (some ⟨bi, 0, none⟩), .slice a ss.length cap] w fun e w' => EndPost (pick svc ss) url e ∧ Below w.heap.size w w' := by
  have HG : Hid (∀ k, k < ss.length → ∃ b o s, a = some ⟨b, o, none⟩ ∧ b < w.heap.size ∧ ss[k]? = some s ∧ w.cell? ⟨b, o + k, none⟩ = some (.string s)) := by
    intro k hk
    rcases hs with rfl | ⟨b, o, ha, hb, hc⟩
    · simp at hk
    · exact ⟨b, o, ss[k], ha, hb, by simp [hk], hc k _ (by simp [hk])⟩
  have HE : Hid (∀ j, j < svc.length → ∃ p, svc[j]? = some p ∧ w.cell? ⟨bs, j * 2, none⟩ = some (.string p.1) ∧ w.cell? ⟨bs, j * 2 + 1, none⟩ = some (.string p.2)) :=
    fun j hj => ⟨svc[j], by simp [hj], (he j _ (by simp [hj])).1, (he j _ (by simp [hj])).2⟩
  have HV := hide hv
  have HU := hide hu
  clear he hv hu
  have hmk := run_make_row' (P := Tryf.prog) 22 9 (.string ⟨#[]⟩) 16 Tryf.underlying22 (by kernel_rfl) rfl .i64 .i64 ss.length (by omega) (by omega)
  have HMK := hide hmk
  clear hmk
  go_enter Tryf.func9, Tryf.ntmps9
  go_wp2
  generalize hn : ss.length = n at *
  have HN := hide hn
  clear hn
  go_loopw [17] (fun i wr => ∃ k : Nat, k ≤ n ∧ i = .int .i64 k ∧ pick svc ss = pick svc (ss.drop k) ∧ Below (w.heap.size + 1) (w.alloc (.cells #[.string ⟨#[]⟩, .string ⟨#[]⟩] 44)) wr) (fun i _ => n - (intOf i).toNat)
  case atStart => exact ⟨0, Nat.zero_le _, rfl, rfl, Below.refl _ _⟩
  case round =>
    obtain ⟨k, hk, rfl, hpk, hbel⟩ := hrel
    have HPK := hide hpk
    have HB := hide hbel
    clear hpk hbel
    by_cases hlt : k < n
    · obtain ⟨b, o, s, ha, hb, hsk, hcell⟩ := HG.out k hlt
      rw [ha]
      clear ha
      have hcw : wr.cell? ⟨b, o + k, none⟩ = some (.string s) := by rw [HB.out.cell (by simp; omega)]; simp [go_sem, hb, hcell]
      have hvw : wr.cell? ⟨bi, 2, none⟩ = some (.slice (some ⟨bs, 0, none⟩) svc.length svc.length) := by rw [HB.out.cell (by simp; omega)]; simp [go_sem, hbi, HV.out]
      have HSK := hide hsk
      clear hsk hcell
      go_wp2
      clear hcw hvw
      generalize hmm : svc.length = m at *
      have HM := hide hmm
      clear hmm
      go_loopw [26] (fun i wr => ∃ j : Nat, j ≤ m ∧ i = .int .i64 j ∧ serveAt svc s = serveAt (svc.drop j) s ∧ Below (w.heap.size + 1) (w.alloc (.cells #[.string ⟨#[]⟩, .string ⟨#[]⟩] 44)) wr) (fun i _ => m - (intOf i).toNat)
      case atStart => exact ⟨0, Nat.zero_le _, rfl, rfl, HB.out⟩
      case round =>
        clear HB
        obtain ⟨j, hj, rfl, hsj, hbel⟩ := hrel
        have HSJ := hide hsj
        have HB := hide hbel
        clear hsj hbel
        by_cases hjt : j < m
        · obtain ⟨p, hp, hp1, hp2⟩ := HE.out j hjt
          have HP := hide hp
          have q1 : wr.cell? ⟨bs, j * 2, none⟩ = some (.string p.1) := by rw [HB.out.cell (by simp; omega)]; simp [go_sem, hbs, hp1]
          have q2 : wr.cell? ⟨bs, j * 2 + 1, none⟩ = some (.string p.2) := by rw [HB.out.cell (by simp; omega)]; simp [go_sem, hbs, hp2]
          have r1 : wr.cell? ⟨w.heap.size, 0, none⟩ = some (.string ⟨#[]⟩) := by rw [HB.out.cell (by simp)]; simp [go_sem]
          have r2 : wr.cell? ⟨w.heap.size, 1, none⟩ = some (.string ⟨#[]⟩) := by rw [HB.out.cell (by simp)]; simp [go_sem]
          have f1 : wr.frozen? ⟨w.heap.size, 0, none⟩ = false := by rw [HB.out.frozen (by simp)]; simp [go_sem]
          have f2 : wr.frozen? ⟨w.heap.size, 1, none⟩ = false := by rw [HB.out.frozen (by simp)]; simp [go_sem]
          have hz1 : w.heap.size < wr.heap.size := by have := HB.out.size; simp at this; omega
          clear hp hp1 hp2
          go_wp2
          · refine bodyPost_ret (v := .tuple #[.agg #[.string p.1, .string p.2], .nilIface]) (by simp [results, Tryf.results9, go_sem, r1, r2, hz1]) rfl ⟨endPost_some ?_, ?_⟩
            · rw [HPK.out]; exact pick_hit HSK.out (by rw [HSJ.out]; exact serve_hit HP.out ‹_›)
            · have hw0 : Below w.heap.size w wr := ((Below.refl _ w).alloc (Nat.le_refl _) _).trans (HB.out.mono (Nat.le_succ _))
              exact (((hw0.setCell (by simp) _).setCell (by simp) _).alloc (by simp; omega) _)
          · go_roundw
            case rel => exact ⟨j + 1, by omega, by go_num, by rw [HSJ.out]; exact serve_miss HP.out ‹_›, HB.out.alloc (by omega) _⟩
            case measure => simp [intOf]; omega
        · go_wp2
          go_roundw
          case rel =>
            refine ⟨k + 1, by omega, by go_num, ?_, HB.out⟩
            rw [HPK.out]
            refine pick_miss HSK.out ?_
            rw [HSJ.out, List.drop_of_length_le (by have := HM.out; omega)]
            rfl
          case measure => simp [intOf]; omega
    · clear HE HV
      have r1 : wr.cell? ⟨w.heap.size, 0, none⟩ = some (.string ⟨#[]⟩) := by rw [HB.out.cell (by simp)]; simp [go_sem]
      have r2 : wr.cell? ⟨w.heap.size, 1, none⟩ = some (.string ⟨#[]⟩) := by rw [HB.out.cell (by simp)]; simp [go_sem]
      have f1 : wr.frozen? ⟨w.heap.size, 0, none⟩ = false := by rw [HB.out.frozen (by simp)]; simp [go_sem]
      have f2 : wr.frozen? ⟨w.heap.size, 1, none⟩ = false := by rw [HB.out.frozen (by simp)]; simp [go_sem]
      have hz1 : w.heap.size < wr.heap.size := by have := HB.out.size; simp at this; omega
      have hu1 : wr.cell? ⟨bp, 4, none⟩ = some (.string url) := by rw [HB.out.cell (by simp; omega)]; simp [go_sem, hbp, HU.out]
      have HP0 : Hid (pick svc ss = none) := by
        show pick svc ss = none
        rw [HPK.out, List.drop_of_length_le (by have := HN.out; omega)]
        rfl
      have HW : Hid (Below w.heap.size w wr) := ((Below.refl _ w).alloc (Nat.le_refl _) _).trans (HB.out.mono (Nat.le_succ _))
      have hmk := HMK.out
      cases hue : url.toList.isEmpty
      · have HUE := hide hue
        go_wp2
        refine bodyPost_ret (v := .tuple #[.agg #[.string redirectB, .string url], .nilIface]) (by simp [results, Tryf.results9, go_sem, r1, r2, redirectB]) rfl ⟨?_, ?_⟩
        · rw [HP0.out]; show EndPost none url _; unfold EndPost; rw [if_neg (by rw [HUE.out]; decide)]
        · exact (HW.out.setCell (by simp) _).setCell (by simp) _
      · have HUE := hide hue
        go_wp2_with fail
        clear hmk HMK hu1 HU
        obtain ⟨wo, hwo⟩ : ∃ wo, wo = wr := ⟨_, rfl⟩
        subst hwo
        go_loopw [47] (fun i wq => ∃ (k : Nat) (xs : List ByteArray), k ≤ n ∧ i = .int .i64 k ∧ xs.length = n ∧ StrRow wq wo.heap.size xs ∧ (∀ x ∈ xs, x.size ≤ 1048576) ∧ Below wo.heap.size wo wq ∧ wo.heap.size < wq.heap.size) (fun i _ => n - (intOf i).toNat)
        case atStart =>
          exact ⟨0, List.replicate n ⟨#[]⟩, Nat.zero_le _, rfl, by simp, strRow_made _ _, by intro x hx; rw [List.eq_of_mem_replicate hx]; decide, (Below.refl _ _).alloc (Nat.le_refl _) _, by simp⟩
        case round =>
          obtain ⟨k, xs, hk, rfl, hxl, hrow, hxz, hbq, hzq⟩ := hrel
          have HR := hide hrow
          have HX := hide hxl
          have HXZ := hide hxz
          have HQ := hide hbq
          clear hrow hxl hxz hbq
          by_cases hlt2 : k < n
          · obtain ⟨b, o, s, ha, hb, hsk, hcell⟩ := HG.out k hlt2
            rw [ha]
            clear ha
            have hcq : wr.cell? ⟨b, o + k, none⟩ = some (.string s) := by rw [HQ.out.cell (by simp; omega), HW.out.cell (by simpa using hb)]; exact hcell
            have hkx : k < xs.length := by have := HX.out; omega
            have hgk := HR.out k xs[k] (List.getElem?_eq_getElem hkx)
            obtain ⟨g1, g2⟩ := hgk
            have HSZ : Hid (s.size ≤ 1048576) := Nat.le_trans (size_le_ssum hsk) hz
            clear hsk hcell
            go_wp2_with (go_at_call 10; refine (Tryf.strings_TrimPrefix _ _ _).mono ?_; rintro e w' ⟨rfl, rfl⟩)
            go_roundw
            case rel =>
              refine ⟨k + 1, xs.set k _, by omega, by go_num, by rw [List.length_set]; exact HX.out, HR.out.set hkx _, ?_, HQ.out.setCell (Nat.le_refl _) _, by simpa using hzq⟩
              intro x hx
              rcases List.mem_or_eq_of_mem_set hx with h | h
              · exact HXZ.out x h
              · rw [h]; exact Nat.le_trans (trim_size _ _) HSZ.out
            case measure => simp [intOf]; omega
          · go_wp2_with fail
            have hxn := HX.out
            clear HX
            subst hxn
            refine (Tryf.strings_Join wo.heap.size 0 _ xs _ _ (fun j x hx => by rw [Nat.zero_add]; exact (HR.out j x hx).1) hzq (by omega) (Nat.le_refl _) (join_len xs _ (by omega) (by decide) HXZ.out)).mono ?_
            rintro e w2 ⟨rfl, hb2⟩
            generalize (Lib.join (xs.map (·.data.toList)) _).toArray = jn
            have HB2 : Hid (Below (w.heap.size + 1) (w.alloc (.cells #[.string ⟨#[]⟩, .string ⟨#[]⟩] 44)) w2) := (HB.out.trans (HQ.out.mono (by omega))).trans (hb2.mono (by omega))
            clear hb2
            go_wp2_with fail
            refine (errorf_any ⟨jn⟩ w2.heap.size _ (by simp [go_sem])).mono ?_
            rintro e w3 ⟨ea, rfl, hb3⟩
            have HB3 : Hid (Below (w.heap.size + 1) (w.alloc (.cells #[.string ⟨#[]⟩, .string ⟨#[]⟩] 44)) w3) := (HB2.out.alloc (by have := HB2.out.size; simp at this; omega) _).trans (hb3.mono (by have := HB2.out.size; simp at this ⊢; omega))
            clear hb3 HB2 HB HQ HW HR r1 r2 f1 f2
            have r1 : w3.cell? ⟨w.heap.size, 0, none⟩ = some (.string ⟨#[]⟩) := by rw [HB3.out.cell (by simp)]; simp [go_sem]
            have r2 : w3.cell? ⟨w.heap.size, 1, none⟩ = some (.string ⟨#[]⟩) := by rw [HB3.out.cell (by simp)]; simp [go_sem]
            have f1 : w3.frozen? ⟨w.heap.size, 0, none⟩ = false := by rw [HB3.out.frozen (by simp)]; simp [go_sem]
            have f2 : w3.frozen? ⟨w.heap.size, 1, none⟩ = false := by rw [HB3.out.frozen (by simp)]; simp [go_sem]
            have HW : Hid (Below w.heap.size w w3) := ((Below.refl _ w).alloc (Nat.le_refl _) _).trans (HB3.out.mono (Nat.le_succ _))
            go_wp2
            refine bodyPost_ret (v := .tuple #[.agg #[.string ⟨#[]⟩, .string ⟨#[]⟩], .iface 69 (.pointer (some ea))]) (by simp [results, Tryf.results9, go_sem, r1, r2]) rfl ⟨?_, ?_⟩
            · rw [HP0.out]; show EndPost none url _; unfold EndPost; rw [if_pos HUE.out]; exact ⟨ea, rfl⟩
            · exact (HW.out.setCell (by simp) _).setCell (by simp) _
end Go.Proofs.Qxb6612389aFmt
