import Derived.Test.Qxb6609411aRows
import Derived.WalkKit
import Derived.ProofKit
import Derived.Below
import Derived.WalkSpells
import Derived.Laws.BytesArg
namespace Go.Proofs.Qxb6609411a
open Go.RowKit

theorem hide {p : Prop} (h : p) : Hid p := h

/-- The decimal digits of a number, at most f of them. -/
def decF : Nat → Nat → List UInt8
  | 0, _ => []
  | f + 1, v => if v = 0 then [] else decF f (v / 10) ++ [UInt8.ofNat (48 + v % 10)]

def valL (l : List UInt8) : Nat := l.foldl (fun a c => 10 * a + (c.toNat - 48)) 0

theorem valL_snoc (l : List UInt8) (c : UInt8) : valL (l ++ [c]) = 10 * valL l + (c.toNat - 48) := by simp [valL, List.foldl_append]

theorem valL_decF : ∀ (f v : Nat), v < 10 ^ f → valL (decF f v) = v := by
  intro f
  induction f with
  | zero => intro v h; simp at h; subst h; rfl
  | succ f ih =>
    intro v h
    unfold decF
    by_cases h0 : v = 0
    · rw [if_pos h0, h0]; rfl
    · rw [if_neg h0, valL_snoc, ih (v / 10) (by rw [Nat.pow_succ] at h; omega)]
      have : (UInt8.ofNat (48 + v % 10)).toNat = 48 + v % 10 := by
        rw [UInt8.toNat_ofNat']
        omega
      rw [this]; omega

theorem decF_len : ∀ (f v : Nat), (decF f v).length ≤ f := by
  intro f
  induction f with
  | zero => intro v; simp [decF]
  | succ f ih =>
    intro v
    unfold decF
    split
    · simp
    · simp; exact ih _

/-- What 'itoa' writes. -/
def itoaL (v : Nat) : List UInt8 := if v = 0 then [48] else decF 20 v
/-- The name of role v. -/
def nm (v : Nat) : ByteArray := ⟨(114 :: itoaL v).toArray⟩

theorem itoaL_inj {u v : Nat} (hu : u < 10 ^ 20) (hv : v < 10 ^ 20) (h : itoaL u = itoaL v) : u = v := by
  have h1 : ∀ x, x < 10 ^ 20 → valL (itoaL x) = x := by
    intro x hx
    unfold itoaL
    split
    · rename_i e; rw [e]; rfl
    · exact valL_decF 20 x hx
  rw [← h1 u hu, ← h1 v hv, h]

theorem nm_inj {u v : Nat} (hu : u < 4096) (hv : v < 4096) (h : nm u = nm v) : u = v := by
  refine itoaL_inj (by omega) (by omega) ?_
  unfold nm at h
  have h2 := congrArg ByteArray.data h
  simpa using h2

theorem nm_size (v : Nat) : (nm v).size ≤ 21 := by
  show (114 :: itoaL v).toArray.size ≤ 21
  unfold itoaL
  split
  · simp
  · simp; exact decF_len 20 v

/-- The digits still to be written join those that are written. -/
theorem decF_step (f v : Nat) (h0 : v ≠ 0) : decF (f + 1) v = decF f (v / 10) ++ [UInt8.ofNat (48 + v % 10)] := by
  conv => lhs; unfold decF
  rw [if_neg h0]

theorem itoa_zero (w : World) : Calls Try.prog 45 #[.int .i64 0] w fun e w' => e = .returned (.string ⟨(itoaL 0).toArray⟩) ∧ w = w' := by
  go_enter Try.func45, Try.ntmps45
  go_wp2
  go_ret
  exact ⟨rfl, rfl⟩

/-- A row of bytes that the call itself writes. -/
def ByteRow (w : World) (g : Nat) (cs : List UInt8) : Prop :=
  ∀ (i : Nat) c, cs[i]? = some c → w.cell? ⟨g, i, none⟩ = some (.int .u8 c.toNat) ∧ w.frozen? ⟨g, i, none⟩ = false

theorem ByteRow.set {w : World} {g : Nat} {cs : List UInt8} (h : ByteRow w g cs) {k : Nat} (hk : k < cs.length) (y : UInt8) : ByteRow (w.setCell ⟨g, k, none⟩ (.int .u8 y.toNat)) g (cs.set k y) := by
  intro i x hx
  by_cases e : i = k
  · subst e
    rw [List.getElem?_set_self hk] at hx
    cases hx
    exact ⟨World.cell?_setCell_same _ _ _ (h i _ (List.getElem?_eq_getElem hk)).1, by rw [World.frozen?_setCell]; exact (h i _ (List.getElem?_eq_getElem hk)).2⟩
  · rw [List.getElem?_set_ne (Ne.symm e)] at hx
    refine ⟨?_, by rw [World.frozen?_setCell]; exact (h i x hx).2⟩
    rw [World.cell?_setCell_other _ _ _ _ (fun hh => e (by injection hh with _ h2; exact h2.symm))]
    exact (h i x hx).1

theorem drop_set_lt {cs : List UInt8} {k : Nat} (y : UInt8) (hk : k < cs.length) : (cs.set k y).drop k = y :: cs.drop (k + 1) := by
  rw [List.drop_eq_getElem_cons (by simpa using hk)]
  simp [List.getElem_set_self, List.drop_set_of_lt]

theorem str_of_list (ds : List UInt8) : strOfNums (ds.map fun c => (c.toNat : Int)) = ⟨ds.toArray⟩ := by
  unfold strOfNums
  congr 1
  simp [Function.comp_def]

theorem slice84 (B i : Nat) (hi : i < 24) (w : World) : (Instr.sliceAt 84 (.pointer (some ⟨B, 0, none⟩)) (some (.int .i64 (i : Int))) none none).run Try.prog w = .ok (.slice (some ⟨B, i, none⟩) (24 - i) (24 - i)) w := by
  have hu : Try.prog.underlying 84 = some (.array 24 5) := by kernel_rfl
  have hl : Try.prog.arrayLen 84 = 24 := by kernel_rfl
  have he : Try.prog.elem 84 = 5 := by kernel_rfl
  have hz : ∀ wx, (sizeOf 5).run Try.prog wx = .ok 1 wx := fun wx => by kernel_rfl
  have h := run_sliceAt_array_l (P := Try.prog) w 84 ⟨B, 0, none⟩ (by rw [hl, he]; exact hu) .i64 (i : Int) (by omega) (by rw [hl]; omega)
  rw [h, he, hz, hl]
  simp only [Result.andThen, slicedAt, Int.toNat_natCast]
  rw [if_neg (by omega), Nat.mul_one]
  have ea : (⟨B, 0, none⟩ : Addr).add i = ⟨B, i, none⟩ := by
    simp only [Addr.add]
    split
    · rename_i h0; subst h0; rfl
    · simp
  rw [ea]

set_option maxHeartbeats 800000 in
set_option maxRecDepth 20000 in
theorem itoa_pos (v : Nat) (h0 : 0 < v) (hv : v < 4096) (w : World) : Calls Try.prog 45 #[.int .i64 v] w fun e w' => e = .returned (.string ⟨(itoaL v).toArray⟩) ∧ Below w.heap.size w w' := by
  have HV : Hid (itoaL v = decF 20 v) := by show _ = _; unfold itoaL; rw [if_neg (by omega)]
  go_enter Try.func45, Try.ntmps45
  go_wp2
  go_loopw [0, 4] (fun vv vi wr => ∃ (u i : Nat) (cs : List UInt8), vv = .int .i64 u ∧ vi = .int .i64 (i : Int) ∧ 4 ≤ i ∧ i ≤ 24 ∧ u < 4096 ∧ u < 10 ^ (i - 4) ∧ cs.length = 24 ∧ decF 20 v = decF (i - 4) u ++ cs.drop i ∧ ByteRow wr w.heap.size cs ∧ Below w.heap.size w wr ∧ w.heap.size < wr.heap.size) (fun vv _ _ => (intOf vv).toNat)
  case atStart =>
    refine ⟨v, 24, List.replicate 24 0, rfl, rfl, by omega, by omega, hv, by omega, by simp, by simp, ?_, (Below.refl _ _).alloc (Nat.le_refl _) _, by simp⟩
    intro i c hc
    rw [List.getElem?_replicate] at hc
    by_cases hi : i < 24
    · rw [if_pos hi] at hc
      cases hc
      have : i = 0 ∨ i = 1 ∨ i = 2 ∨ i = 3 ∨ i = 4 ∨ i = 5 ∨ i = 6 ∨ i = 7 ∨ i = 8 ∨ i = 9 ∨ i = 10 ∨ i = 11 ∨ i = 12 ∨ i = 13 ∨ i = 14 ∨ i = 15 ∨ i = 16 ∨ i = 17 ∨ i = 18 ∨ i = 19 ∨ i = 20 ∨ i = 21 ∨ i = 22 ∨ i = 23 := by omega
      rcases this with rfl | rfl | rfl | rfl | rfl | rfl | rfl | rfl | rfl | rfl | rfl | rfl | rfl | rfl | rfl | rfl | rfl | rfl | rfl | rfl | rfl | rfl | rfl | rfl <;> simp [go_sem]
    · rw [if_neg hi] at hc; cases hc
  case round =>
    obtain ⟨u, i, cs, rfl, rfl, hi4, hi24, hu, hup, hcl, hde, hrow, hbel, hzz⟩ := hrel
    have HR := hide hrow
    have HB := hide hbel
    have HD := hide hde
    have HL := hide hcl
    have HUP := hide hup
    clear hrow hbel hde hcl hup
    by_cases hu0 : 0 < u
    · have hi5 : 5 ≤ i := by
        rcases Nat.lt_or_ge i 5 with h | h
        · exfalso
          have h1 := HUP.out
          have : i - 4 = 0 := by omega
          rw [this] at h1
          omega
        · exact h
      have hix : i - 1 < cs.length := by have := HL.out; omega
      have hc := HR.out (i - 1) cs[i - 1] (List.getElem?_eq_getElem hix)
      obtain ⟨c1, c2⟩ := hc
      generalize cs[i - 1] = cc at c1
      have hy : (48 + (u : Int) % 10) = ((UInt8.ofNat (48 + u % 10)).toNat : Int) := by
        have : (UInt8.ofNat (48 + u % 10)).toNat = 48 + u % 10 := by
          rw [UInt8.toNat_ofNat']
          omega
        omega
      have HY := hide hy
      clear hy
      go_wp2
      refine ⟨⟨u / 10, i - 1, cs.set (i - 1) (UInt8.ofNat (48 + u % 10)), by go_num, by congr 1; omega, by omega, by omega, by omega, ?_, by rw [List.length_set]; exact HL.out, ?_, ?_, HB.out.setCell (Nat.le_refl _) _, by simpa using hzz⟩, by simp [intOf]; omega⟩
      · have h1 := HUP.out
        have e : i - 4 = (i - 1 - 4) + 1 := by omega
        rw [e, Nat.pow_succ] at h1
        omega
      · rw [drop_set_lt _ hix, HD.out, show i - 4 = (i - 1 - 4) + 1 from by omega, decF_step _ _ (by omega), show i - 1 + 1 = i from by omega]
        simp
      · rw [HY.out]
        exact HR.out.set hix _
    · have hu00 : u = 0 := by omega
      subst hu00
      have hcv := run_convert_bytes_arg (P := Try.prog) wr 85 5 Try.underlying85 Try.underlying5 w.heap.size i (24 - i) (24 - i) ((cs.drop i).map fun c => (c.toNat : Int)) (by simp; have := HL.out; omega) (by
        intro j hj
        have hl := HL.out
        have := (HR.out (i + j) cs[i + j] (List.getElem?_eq_getElem (by omega))).1
        rw [this]
        simp [show i + j < cs.length by omega]) 9 Try.underlying9
      rw [str_of_list] at hcv
      have hd0 : decF 20 v = cs.drop i := by
        rw [HD.out]
        cases (i - 4) <;> simp [decF]
      have hi23 : i < 24 := by
        rcases Nat.lt_or_ge i 24 with h | h
        · exact h
        · exfalso
          have e : i = 24 := by omega
          subst e
          rw [List.drop_of_length_le (by have := HL.out; omega)] at hd0
          have := valL_decF 20 v (by omega)
          rw [hd0] at this
          simp [valL] at this
          omega
      have HD0 := hide hd0
      clear hd0
      have hsl := slice84 w.heap.size i hi23
      go_wp2
      go_ret
      exact ⟨by rw [HV.out, HD0.out]; rfl, HB.out⟩

theorem itoaL_len (v : Nat) : (itoaL v).length ≤ 20 := by
  unfold itoaL
  split
  · simp
  · exact decF_len 20 v

theorem nm_eq (v : Nat) : (⟨#[114]⟩ : ByteArray) ++ ⟨(itoaL v).toArray⟩ = nm v := by
  unfold nm
  apply ByteArray.ext
  rw [ByteArray.data_append]
  simp

theorem role_any (v : Nat) (hv : v < 4096) (w : World) : Calls Try.prog 16 #[.int .i64 v] w fun e w' => e = .returned (.string (nm v)) ∧ Below w.heap.size w w' := by
  rcases Nat.eq_zero_or_pos v with rfl | h0
  · go_enter Try.func16, Try.ntmps16
    go_wp2_with fail
    refine (itoa_zero _).mono ?_
    rintro e w1 ⟨rfl, rfl⟩
    go_wp2
    go_ret
    exact ⟨rfl, Below.refl _ _⟩
  · go_enter Try.func16, Try.ntmps16
    go_wp2_with fail
    refine (itoa_pos v h0 hv _).mono ?_
    rintro e w1 ⟨rfl, hb⟩
    have hl := itoaL_len v
    go_wp2
    go_ret
    refine ⟨?_, hb⟩
    show Ending.returned (.string _) = .returned (.string (nm v))
    rw [← nm_eq]
end Go.Proofs.Qxb6609411a
