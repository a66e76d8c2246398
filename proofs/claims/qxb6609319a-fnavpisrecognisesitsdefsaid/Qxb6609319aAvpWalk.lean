import Derived.Test.Qxb6609319aAvp
namespace Go.Proofs.Qxb6609319a
open Go.ChangeShapes Go.WideShapes Go.ChangeAt Go.RowKit

theorem walk_no (c1 v1 : Int) (m1 : Bool) (f1 c2 v2 : Int) (m2 : Bool) (f2 : Int) (s : ByteArray) (hs : 1048576 < (s.size : Int)) (hm : s.size ≤ maxLen) (w : World) :
    Calls Try.prog 4 #[.int .u32 c1, .int .u32 v1, .bool m1, .int .u8 f1, .int .u32 c2, .int .u32 v2, .bool m2, .int .u8 f2, .string s] w fun e w' => e = .returned (.bool true) ∧ Below w.heap.size w w' := by
  go_enter Try.func4, Try.ntmps4
  go_wp2_with (go_at_call 8; refine (zzBytes_no _ _ _ _ _ _ _ _ _ hs hm _).mono ?_; rintro e w' ⟨rfl, rfl⟩)
  go_ret
  exact ⟨rfl, Below.refl _ _⟩

theorem bcell {W w1 : World} (hb : Below W.heap.size W w1) : (∀ b o, b < W.heap.size → w1.cell? ⟨b, o, none⟩ = W.cell? ⟨b, o, none⟩) ∧ (∀ b o, b < W.heap.size → w1.frozen? ⟨b, o, none⟩ = W.frozen? ⟨b, o, none⟩) :=
  ⟨fun b o h => hb.cell (p := ⟨b, o, none⟩) h, fun b o h => hb.frozen (p := ⟨b, o, none⟩) h⟩

theorem key_eq (c1 v1 c2 v2 : Int) (a1 : 0 ≤ c1) (b1 : c1 ≤ 4294967295) (a3 : 0 ≤ c2) (b3 : c2 ≤ 4294967295) :
    (decide (c1 = c2 ∧ v1 = v2) == (v1 * 4294967296 + c1 == v2 * 4294967296 + c2)) = true := by
  rw [beq_iff_eq, Bool.eq_iff_iff, beq_iff_eq, decide_eq_true_eq]
  omega

set_option maxHeartbeats 800000 in
theorem walk_yes (c1 v1 : Int) (m1 : Bool) (f1 c2 v2 : Int) (m2 : Bool) (f2 : Int) (s : ByteArray) (hs : (s.size : Int) ≤ 1048576) (w : World)
   (a1 : 0 ≤ c1) (b1 : c1 ≤ 4294967295) (a2 : 0 ≤ v1) (b2 : v1 ≤ 4294967295) (a3 : 0 ≤ c2) (b3 : c2 ≤ 4294967295) (a4 : 0 ≤ v2) (b4 : v2 ≤ 4294967295) :
    Calls Try.prog 4 #[.int .u32 c1, .int .u32 v1, .bool m1, .int .u8 f1, .int .u32 c2, .int .u32 v2, .bool m2, .int .u8 f2, .string s] w fun e w' => e = .returned (.bool true) ∧ Below w.heap.size w w' := by
  have HK : Hid ((decide (c1 = c2 ∧ v1 = v2) == (v1 * 4294967296 + c1 == v2 * 4294967296 + c2)) = true) := key_eq c1 v1 c2 v2 a1 b1 a3 b3
  go_enter Try.func4, Try.ntmps4
  go_wp2_with (go_at_call 8; refine (zzBytes_yes _ _ _ _ _ _ _ _ _ hs _).mono ?_; rintro e w' ⟨rfl, rfl⟩)
  refine (utf8_any _ _ _ _ _ _).mono ?_
  rintro e w1 ⟨d, n, k, rfl, hb⟩
  have hz : w.heap.size + 1 < w1.heap.size := by have := hb.size; simp at this; omega
  have HB1 : Hid (Below w.heap.size w w1) := (((Below.refl _ _).alloc (Nat.le_refl _) _).alloc (by simp) _).trans (hb.mono (by simp; omega))
  have hc0 : ∀ i, w1.cell? ⟨w.heap.size, i, none⟩ = (#[Value.int IntKind.u32 c1, Value.int IntKind.u32 v1, Value.bool m1, Value.int IntKind.u8 f1] : Array Value)[i]? := by
    intro i; rw [hb.cell (by simp; omega)]; simp [go_sem]
  have hc1 : ∀ i, w1.cell? ⟨w.heap.size + 1, i, none⟩ = (#[Value.int IntKind.u32 c2, Value.int IntKind.u32 v2, Value.bool m2, Value.int IntKind.u8 f2] : Array Value)[i]? := by
    intro i; rw [hb.cell (by simp)]; simp [go_sem]
  clear hb
  have hz0 : w.heap.size < w1.heap.size := by omega
  have p00 := hc0 0
  have p01 := hc0 1
  have p02 := hc0 2
  have p03 := hc0 3
  have p10 := hc1 0
  have p11 := hc1 1
  have p12 := hc1 2
  have p13 := hc1 3
  simp at p00 p01 p02 p03 p10 p11 p12 p13
  clear hc0 hc1
  go_wp2_with fail
  refine (is_any c1 v1 c1 v1 _ _ _ _ _ _ _).mono ?_
  rintro e w2 ⟨rfl, hb⟩
  have q0 : w2.cell? ⟨w1.heap.size, 0, none⟩ = some (.int .u32 c1) := by rw [hb.cell (by simp)]; simp [go_sem]
  have q1 : w2.cell? ⟨w1.heap.size, 1, none⟩ = some (.int .u32 v1) := by rw [hb.cell (by simp)]; simp [go_sem]
  have q2 : w2.cell? ⟨w1.heap.size, 2, none⟩ = some (.bool m1) := by rw [hb.cell (by simp)]; simp [go_sem]
  have q3 : w2.cell? ⟨w1.heap.size, 3, none⟩ = some (.slice d n k) := by rw [hb.cell (by simp)]; simp [go_sem]
  have r0 : w2.cell? ⟨w.heap.size + 1, 0, none⟩ = some (.int .u32 c2) := by rw [hb.cell (by simp; omega)]; simp [go_sem, hz, p10]
  have r1 : w2.cell? ⟨w.heap.size + 1, 1, none⟩ = some (.int .u32 v2) := by rw [hb.cell (by simp; omega)]; simp [go_sem, hz, p11]
  have r2 : w2.cell? ⟨w.heap.size + 1, 2, none⟩ = some (.bool m2) := by rw [hb.cell (by simp; omega)]; simp [go_sem, hz, p12]
  have r3 : w2.cell? ⟨w.heap.size + 1, 3, none⟩ = some (.int .u8 f2) := by rw [hb.cell (by simp; omega)]; simp [go_sem, hz, p13]
  have HB2 : Hid (Below w.heap.size w w2) := ((HB1.out.alloc (by omega) _).trans (hb.mono (by simp; omega)))
  clear HB1 hb p00 p01 p02 p03 p10 p11 p12 p13
  go_wp2_with fail
  refine (is_any c1 v1 c2 v2 _ _ _ _ _ _ _).mono ?_
  rintro e w3 ⟨rfl, hb⟩
  have HB3 : Hid (Below w.heap.size w w3) := HB2.out.trans (hb.mono HB2.out.size)
  clear HB2 hb q0 q1 q2 q3 r0 r1 r2 r3
  generalize decide (c1 = c2 ∧ v1 = v2) = x at HK ⊢
  go_wp2_with fail
  refine (pack_any c1 v1 a1 b1 a2 b2 _).mono ?_
  rintro e w4 ⟨rfl, rfl⟩
  go_wp2_with fail
  refine (pack_any c2 v2 a3 b3 a4 b4 _).mono ?_
  rintro e w4 ⟨rfl, rfl⟩
  go_wp2
  go_ret
  exact ⟨ret_bool HK.out, HB3.out⟩
end Go.Proofs.Qxb6609319a
