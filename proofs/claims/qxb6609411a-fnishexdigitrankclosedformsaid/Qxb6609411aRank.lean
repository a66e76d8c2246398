import Derived.Test.Qxb6609411aHex
namespace Go.Proofs.Qxb6609411a
open Go.ChangeShapes Go.WideShapes Go.ChangeAt Go.RowKit

/-- How many accepted bytes lie below k: a closed form. -/
def hexCnt (k : Int) : Int := min (max (k - 48) 0) 10 + min (max (k - 65) 0) 6 + min (max (k - 97) 0) 6

theorem ret_int {q : IntKind} {a b : Int} (h : a = b) : Ending.returned (.int q a) = .returned (.int q b) := by rw [h]

theorem hexCnt_bd (k : Int) : 0 ≤ hexCnt k ∧ hexCnt k ≤ 22 := by unfold hexCnt; omega
theorem hexCnt_yes (k : Int) (h : hexB k = true) : hexCnt (k + 1) = hexCnt k + 1 := by
  simp [hexB] at h; unfold hexCnt; omega
theorem hexCnt_no (k : Int) (h : hexB k = false) : hexCnt (k + 1) = hexCnt k := by
  have h' : ¬ ((48 ≤ k ∧ k ≤ 57) ∨ (97 ≤ k ∧ k ≤ 102) ∨ (65 ≤ k ∧ k ≤ 70)) := by
    intro hh; unfold hexB at h; rw [decide_eq_true hh] at h; cases h
  unfold hexCnt; omega

set_option maxHeartbeats 400000 in
theorem hexRank_any (c : Int) (w : World) (h0 : 0 ≤ c) (h1 : c ≤ 255) :
    Calls Try.prog 11 #[.int .u8 c] w fun e w' => e = .returned (.int .i64 (hexCnt (c + 1))) ∧ w' = w := by
  rcases (by omega : c < 48 ∨ (48 ≤ c ∧ c ≤ 57) ∨ (58 ≤ c ∧ c ≤ 64) ∨ (65 ≤ c ∧ c ≤ 70) ∨ (71 ≤ c ∧ c ≤ 96) ∨ (97 ≤ c ∧ c ≤ 102) ∨ 103 ≤ c) with h | ⟨h, h'⟩ | ⟨h, h'⟩ | ⟨h, h'⟩ | ⟨h, h'⟩ | ⟨h, h'⟩ | h
  all_goals
    go_enter Try.func11, Try.ntmps11
    go_wp2
    go_ret
    refine ⟨ret_int ?_, rfl⟩
    unfold hexCnt; omega

theorem rank_walk (a0 : Int) (h0 : 0 ≤ a0) (h1 : a0 ≤ 255) (w : World) :
    Calls Try.prog 4 #[.int .u8 a0] w fun e w' => e = .returned (.bool true) ∧ Grown w w' := by
  go_enter Try.func4, Try.ntmps4
  go_wp2
  go_loop [3, 4] (fun n i => ∃ k : Nat, (k : Int) ≤ a0 + 1 ∧ i = .int .i64 k ∧ n = .int .i64 (hexCnt k)) (fun _ i => (a0 + 1).toNat - (intOf i).toNat)
  case atStart => exact ⟨0, by omega, rfl, rfl⟩
  case round =>
    obtain ⟨k, hk, rfl, rfl⟩ := hrel
    have hbd := hexCnt_bd k
    by_cases hlt : (k : Int) ≤ a0
    · cases hx : hexB (k : Int)
      · have hs := hexCnt_no k hx
        have HS : Hid (hexCnt ((k : Int) + 1) = hexCnt k) := hs
        clear hs
        go_wp2_with (go_at_call 10; refine (zzHex_any _ _).mono ?_; rintro e w' ⟨rfl, rfl⟩)
        go_round
        case rel => exact ⟨k + 1, by omega, by go_num, by rw [show ((k + 1 : Nat) : Int) = (k : Int) + 1 from by omega, HS.out]⟩
        case measure => simp [intOf]; omega
      · have hs := hexCnt_yes k hx
        have HS : Hid (hexCnt ((k : Int) + 1) = hexCnt k + 1) := hs
        clear hs
        go_wp2_with (go_at_call 10; refine (zzHex_any _ _).mono ?_; rintro e w' ⟨rfl, rfl⟩)
        go_round
        case rel => exact ⟨k + 1, by omega, by go_num, by rw [show ((k + 1 : Nat) : Int) = (k : Int) + 1 from by omega, HS.out]⟩
        case measure => simp [intOf]; omega
    · have hk2 : (k : Int) = a0 + 1 := by omega
      have HK : Hid ((k : Int) = a0 + 1) := hk2
      clear hk2
      go_wp2_with (go_at_call 11; refine (hexRank_any _ _ h0 h1).mono ?_; rintro e w' ⟨rfl, rfl⟩)
      go_ret
      exact ⟨ret_bool (by rw [HK.out]; simp), Grown.refl _⟩
end Go.Proofs.Qxb6609411a
