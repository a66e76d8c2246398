import Derived.Test.Qxb6609319aRows
import Derived.WalkKit
import Derived.ProofKit
import Derived.OpenShut
import Derived.ShutString
import Derived.Below
import Derived.Lib.ConvBytes
import Derived.Laws.BitsAllLaws
import Derived.Lib.UnsafeStr
namespace Go.Proofs.Qxb6609319a
open Go.ChangeShapes Go.WideShapes Go.ChangeAt Go.RowKit

theorem ret_bool {a b : Bool} (h : a = b) : Ending.returned (.bool a) = .returned (.bool b) := by rw [h]
theorem ret_int {q : IntKind} {a b : Int} (h : a = b) : Ending.returned (.int q a) = .returned (.int q b) := by rw [h]

theorem or_add (c v : Nat) (hc : c < 4294967296) (hv : v < 4294967296) : bits .or .u64 ((v : Int) * 4294967296) (c : Int) = (v : Int) * 4294967296 + c := by
  have e : (v : Int) * 4294967296 = ((v * 4294967296 : Nat) : Int) := by omega
  rw [e, u64_or_nat _ _ (by omega) (by omega)]
  have h2 : v * 4294967296 ||| c = v * 4294967296 + c := by
    have := Nat.two_pow_add_eq_or_of_lt (i := 32) (b := c) hc v
    rw [show (2 : Nat) ^ 32 = 4294967296 from rfl] at this
    rw [Nat.mul_comm v, this]
  rw [h2]
  omega

theorem avp_any (c v : Int) (m : Bool) (f : Int) (d : Option Addr) (n k : Nat) (w : World) :
    Calls Try.prog 11 #[.agg #[.int .u32 c, .int .u32 v, .bool m, .int .u8 f], .slice d n k] w fun e w' => e = .returned (.agg #[.int .u32 c, .int .u32 v, .bool m, .slice d n k]) ∧ Below w.heap.size w w' := by
  go_enter Try.func11, Try.ntmps11
  go_wp2
  refine bodyPost_ret (v := .agg #[.int .u32 c, .int .u32 v, .bool m, .slice d n k]) (by simp [results, Try.results11, go_sem]) rfl ⟨rfl, ?_⟩
  exact ((Below.refl _ _).alloc (Nat.le_refl _) _).alloc (by simp) _

theorem is_any (c v c' v' : Int) (m m' : Bool) (f : Int) (d : Option Addr) (n k : Nat) (w : World) :
    Calls Try.prog 9 #[.agg #[.int .u32 c, .int .u32 v, .bool m, .slice d n k], .agg #[.int .u32 c', .int .u32 v', .bool m', .int .u8 f]] w fun e w' => e = .returned (.bool (decide (c = c' ∧ v = v'))) ∧ Below w.heap.size w w' := by
  have hbel : ∀ (o1 o2 : Obj), Below w.heap.size w ((w.alloc o1).alloc o2) := fun o1 o2 => ((Below.refl _ _).alloc (Nat.le_refl _) _).alloc (by simp) _
  have HB : Hid (∀ (o1 o2 : Obj), Below w.heap.size w ((w.alloc o1).alloc o2)) := hbel
  clear hbel
  by_cases h1 : c = c' <;> by_cases h2 : v = v'
  all_goals
    go_enter Try.func9, Try.ntmps9
    go_wp2
    go_ret
    refine ⟨ret_bool ?_, HB.out _ _⟩
    rw [Bool.eq_iff_iff]
    simp [h1, h2]

theorem pack_any (c v : Int) (hc0 : 0 ≤ c) (hc : c ≤ 4294967295) (hv0 : 0 ≤ v) (hv : v ≤ 4294967295) (w : World) :
    Calls Try.prog 10 #[.int .u32 c, .int .u32 v] w fun e w' => e = .returned (.int .u64 (v * 4294967296 + c)) ∧ w = w' := by
  go_enter Try.func10, Try.ntmps10
  go_wp2
  go_ret
  refine ⟨ret_int ?_, rfl⟩
  obtain ⟨a, rfl⟩ := Int.eq_ofNat_of_zero_le hc0
  obtain ⟨b, rfl⟩ := Int.eq_ofNat_of_zero_le hv0
  exact or_add a b (by omega) (by omega)

theorem below_bytes (w : World) (e : TypeId) (s : ByteArray) : Below w.heap.size w (Lib.bytesWorld w e s) :=
  Lib.below_freeze (((Below.refl _ _).drew).alloc (Nat.le_refl _) _) (Nat.le_refl _) _

theorem utf8_any (c v : Int) (m : Bool) (f : Int) (s : ByteArray) (w : World) :
    Calls Try.prog 6 #[.agg #[.int .u32 c, .int .u32 v, .bool m, .int .u8 f], .string s] w fun e w' => ∃ d n k, e = .returned (.agg #[.int .u32 c, .int .u32 v, .bool m, .slice d n k]) ∧ Below w.heap.size w w' := by
  have hcv := fun w => Lib.run_convert_string_bytes (P := Try.prog) w 9 27 5 s (u := .string) Try.underlying9 Try.underlying27 Try.underlying5
  go_enter Try.func6, Try.ntmps6
  go_wp2_with fail
  refine (avp_any c v m f _ _ _ _).mono ?_
  rintro e w1 ⟨rfl, hb⟩
  clear hcv
  have hb' := (below_bytes _ _ _).trans (hb.mono (below_bytes _ _ _).size)
  have hz : w.heap.size + 1 < w1.heap.size := by have := hb'.size; simp at this; omega
  have hc : ∀ i, w1.cell? ⟨w.heap.size + 1, i, none⟩ = (#[Value.int IntKind.u32 0, Value.int IntKind.u32 0, Value.bool false, Value.slice none 0 0] : Array Value)[i]? := by
    intro i; rw [hb'.cell (by simp)]; simp [go_sem]
  have hf : ∀ i, w1.frozen? ⟨w.heap.size + 1, i, none⟩ = false := by
    intro i; rw [hb'.frozen (by simp)]; simp [go_sem]
  have HB : Hid (Below w.heap.size w w1) := (((Below.refl _ _).alloc (Nat.le_refl _) _).alloc (by simp) _).trans (hb'.mono (by simp; omega))
  clear hb hb'
  have h0 := hc 0
  have h1 := hc 1
  have h2 := hc 2
  have h3 := hc 3
  simp at h0 h1 h2 h3
  clear hc
  go_wp2
  refine bodyPost_ret (v := .agg #[.int .u32 c, .int .u32 v, .bool m, .slice _ _ _]) (by simp [results, Try.results6, go_sem, h0, h1, h2, h3]; exact ⟨rfl, rfl, rfl⟩) rfl ⟨_, _, _, rfl, ?_⟩
  exact (((HB.out.setCell (by simp) _).setCell (by simp) _).setCell (by simp) _).setCell (by simp) _

theorem zzBytes_yes (c1 v1 : Int) (m1 : Bool) (f1 c2 v2 : Int) (m2 : Bool) (f2 : Int) (s : ByteArray) (hs : (s.size : Int) ≤ 1048576) (w : World) :
    Calls Try.prog 8 #[.int .u32 c1, .int .u32 v1, .bool m1, .int .u8 f1, .int .u32 c2, .int .u32 v2, .bool m2, .int .u8 f2, .string s] w fun e w' => e = .returned (.bool true) ∧ w = w' := by
  go_enter Try.func8, Try.ntmps8
  go_wp2
  go_ret
  exact ⟨rfl, rfl⟩
theorem zzBytes_no (c1 v1 : Int) (m1 : Bool) (f1 c2 v2 : Int) (m2 : Bool) (f2 : Int) (s : ByteArray) (hs : 1048576 < (s.size : Int)) (_hm : s.size ≤ maxLen) (w : World) :
    Calls Try.prog 8 #[.int .u32 c1, .int .u32 v1, .bool m1, .int .u8 f1, .int .u32 c2, .int .u32 v2, .bool m2, .int .u8 f2, .string s] w fun e w' => e = .returned (.bool false) ∧ w = w' := by
  unfold maxLen at _hm
  go_enter Try.func8, Try.ntmps8
  go_wp2
  go_ret
  exact ⟨rfl, rfl⟩

end Go.Proofs.Qxb6609319a
