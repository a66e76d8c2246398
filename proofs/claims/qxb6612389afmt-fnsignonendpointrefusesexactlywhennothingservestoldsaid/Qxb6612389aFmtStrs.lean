import Derived.Test.Qxb6612389aFmtErr
import Derived.ProofKit
import Derived.OpenShut
namespace Go.Proofs.Qxb6612389aFmt
open Go.ChangeShapes Go.WideShapes Go.ChangeAt Go.RowKit

theorem hide {p : Prop} (h : p) : Hid p := h
theorem ret_bool {a b : Bool} (h : a = b) : Ending.returned (.bool a) = .returned (.bool b) := by rw [h]
theorem ret_int {q : IntKind} {a b : Int} (h : a = b) : Ending.returned (.int q a) = .returned (.int q b) := by rw [h]

/-- A slice of strings as the walks take it: as many cells as elements; where there is an element, they lie in a row at an address below the heap's end. -/
def Strs (w : World) (a : Option Addr) (ss : List ByteArray) : Prop :=
  ss = [] ∨ ∃ b o, a = some ⟨b, o, none⟩ ∧ b < w.heap.size ∧ ∀ (i : Nat) x, ss[i]? = some x → w.cell? ⟨b, o + i, none⟩ = some (.string x)

def ssum : List ByteArray → Nat
  | [] => 0
  | s :: r => 16 + s.size + ssum r

theorem ssum_append (l r : List ByteArray) : ssum (l ++ r) = ssum l + ssum r := by
  induction l with
  | nil => simp [ssum]
  | cons a l ih => simp [ssum, ih]; omega

theorem ssum_take {ss : List ByteArray} {k : Nat} {s : ByteArray} (h : ss[k]? = some s) : ssum (ss.take (k + 1)) = ssum (ss.take k) + (16 + s.size) := by
  obtain ⟨hk, rfl⟩ := List.getElem?_eq_some_iff.1 h
  rw [List.take_succ_eq_append_getElem hk, ssum_append]
  simp [ssum]

theorem ssum_le (ss : List ByteArray) (k : Nat) : ssum (ss.take k) ≤ ssum ss := by
  have := ssum_append (ss.take k) (ss.drop k)
  rw [List.take_append_drop] at this
  omega

set_option maxHeartbeats 400000 in
theorem strBytes_any (a : Option Addr) (cap : Nat) (ss : List ByteArray) (w : World) (hs : Strs w a ss) (hl : ss.length ≤ 4096) (hz : ∀ s ∈ ss, s.size ≤ maxLen) :
    Calls Tryf.prog 6 #[.slice a ss.length cap] w fun e w' => ∃ n : Int, e = .returned (.int .i64 n) ∧ 0 ≤ n ∧ n ≤ 2097200 ∧ (n ≤ 1048576 → (ssum ss : Int) ≤ n) ∧ w = w' := by
  have hget : ∀ k, k < ss.length → ∃ s, ss[k]? = some s ∧ s.size ≤ maxLen := fun k h => ⟨ss[k], by simp [h], hz _ (List.getElem_mem h)⟩
  have HG : Hid (∀ k, k < ss.length → ∃ s, ss[k]? = some s ∧ s.size ≤ maxLen) := hget
  clear hget hz
  rcases hs with hnil | ⟨b, o, rfl, hb, hc⟩
  · have hl0 : ss.length = 0 := by rw [hnil]; rfl
    rw [hl0]
    go_enter Tryf.func6, Tryf.ntmps6
    go_wp2
    refine wp_loop_rounds 1 ?_
    rw [rounds_succ]
    go_wp2
    go_ret
    exact ⟨0, rfl, by omega, by omega, fun _ => by rw [hnil]; simp [ssum], rfl⟩
  · have HC : Hid (∀ (i : Nat) x, ss[i]? = some x → w.cell? ⟨b, o + i, none⟩ = some (.string x)) := hc
    clear hc
    go_enter Tryf.func6, Tryf.ntmps6
    go_wp2
    go_loop [3, 4] (fun n i => ∃ k : Nat, k ≤ ss.length ∧ i = .int .i64 k ∧ n = .int .i64 (ssum (ss.take k) : Nat) ∧ ssum (ss.take k) ≤ 1048576) (fun _ i => ss.length - (intOf i).toNat)
    case atStart => exact ⟨0, Nat.zero_le _, rfl, rfl, by simp [ssum]⟩
    case round =>
      obtain ⟨k, hk, rfl, rfl, hn⟩ := hrel
      by_cases hlt : k < ss.length
      · obtain ⟨s, hs, hsz⟩ := HG.out k hlt
        have hcell := HC.out k s hs
        have HS : Hid (ssum (ss.take (k + 1)) = ssum (ss.take k) + (16 + s.size)) := ssum_take hs
        have HLe : Hid (ssum (ss.take (k + 1)) ≤ ssum ss) := ssum_le ss (k + 1)
        clear hs
        unfold maxLen at hsz
        generalize hm : ssum (ss.take k) = m at HS hn ⊢
        have HM : Hid (ssum (ss.take k) = m) := hm
        clear hm
        go_wp2
        · go_ret
          exact ⟨1048577, rfl, by omega, by omega, fun h => absurd h (by omega), rfl⟩
        · go_ret
          exact ⟨_, rfl, by omega, by omega, fun h => absurd h (by omega), rfl⟩
        · go_round
          case rel => exact ⟨k + 1, by omega, by go_num, by rw [HS.out]; go_num, by rw [HS.out]; omega⟩
          case measure => simp [intOf]; omega
      · go_wp2
        go_ret
        exact ⟨_, rfl, by omega, by omega, fun _ => by rw [List.take_of_length_le (by omega)]; exact Int.le_refl _, rfl⟩

end Go.Proofs.Qxb6612389aFmt
