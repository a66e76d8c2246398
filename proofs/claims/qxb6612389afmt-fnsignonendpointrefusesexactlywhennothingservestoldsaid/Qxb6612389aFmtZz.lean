import Derived.Test.Qxb6612389aFmtStrs
namespace Go.Proofs.Qxb6612389aFmt
open Go.ChangeShapes Go.WideShapes Go.ChangeAt Go.RowKit

/-- An element of a slice of strings, with its cell. -/
theorem Strs.at {w : World} {a : Option Addr} {ss : List ByteArray} (h : Strs w a ss) (hz : ∀ s ∈ ss, s.size ≤ maxLen) : ∀ k, k < ss.length → ∃ b o s, a = some ⟨b, o, none⟩ ∧ w.cell? ⟨b, o + k, none⟩ = some (.string s) ∧ s.size ≤ 9223372036854775807 := by
  intro k hk
  rcases h with rfl | ⟨b, o, ha, _, hc⟩
  · simp at hk
  · exact ⟨b, o, ss[k], ha, hc k _ (by simp [hk]), hz _ (List.getElem_mem hk)⟩

/-- Some bool is returned. -/
def SomeBool (e : Ending) : Prop := ∃ r : Bool, e = .returned (.bool r)
theorem someBool (r : Bool) : SomeBool (.returned (.bool r)) := ⟨r, rfl⟩

/-- What 'zzBytes' does: it answers some bool and turns nothing. -/
theorem zzBytes5_any (s0 : ByteArray) (a1 a2 a3 : Option Addr) (c1 c2 c3 : Nat) (ss1 ss2 ss3 : List ByteArray) (w : World)
    (h0 : s0.size ≤ maxLen) (h1 : Strs w a1 ss1) (h2 : Strs w a2 ss2) (h3 : Strs w a3 ss3)
    (l1 : ss1.length ≤ maxLen) (l2 : ss2.length ≤ maxLen) (l3 : ss3.length ≤ maxLen)
    (z1 : ∀ s ∈ ss1, s.size ≤ maxLen) (z2 : ∀ s ∈ ss2, s.size ≤ maxLen) (z3 : ∀ s ∈ ss3, s.size ≤ maxLen) :
    Calls Tryf.prog 5 #[.string s0, .slice a1 ss1.length c1, .slice a2 ss2.length c2, .slice a3 ss3.length c3] w fun e w' => SomeBool e ∧ w = w' := by
  have G1 : Hid (∀ k, k < ss1.length → ∃ b o s, a1 = some ⟨b, o, none⟩ ∧ w.cell? ⟨b, o + k, none⟩ = some (.string s) ∧ s.size ≤ 9223372036854775807) := h1.at z1
  have G2 : Hid (∀ k, k < ss2.length → ∃ b o s, a2 = some ⟨b, o, none⟩ ∧ w.cell? ⟨b, o + k, none⟩ = some (.string s) ∧ s.size ≤ 9223372036854775807) := h2.at z2
  have G3 : Hid (∀ k, k < ss3.length → ∃ b o s, a3 = some ⟨b, o, none⟩ ∧ w.cell? ⟨b, o + k, none⟩ = some (.string s) ∧ s.size ≤ 9223372036854775807) := h3.at z3
  clear h1 h2 h3 z1 z2 z3
  unfold maxLen at h0 l1 l2 l3
  generalize ss1.length = n1 at *
  generalize ss2.length = n2 at *
  generalize ss3.length = n3 at *
  go_enter Tryf.func5, Tryf.ntmps5
  go_wp2
  any_goals (go_ret; exact ⟨someBool _, rfl⟩)
  go_loop [9, 10] (fun z i => ∃ k : Nat, k ≤ n1 ∧ i = .int .i64 k ∧ ∃ m : Int, z = .int .i64 m ∧ 0 ≤ m ∧ m ≤ 1048576) (fun _ i => n1 - (intOf i).toNat)
  case atStart => exact ⟨0, Nat.zero_le _, rfl, _, rfl, by omega, by omega⟩
  case round =>
    obtain ⟨k, hk, rfl, m, rfl, hm0, hm1⟩ := hrel
    by_cases hlt : k < n1
    · obtain ⟨b, o, s, ha, hcell, hsz⟩ := G1.out k hlt
      rw [ha]
      clear ha
      go_wp2
      any_goals (go_ret; exact ⟨someBool _, rfl⟩)
      go_round
      case rel => exact ⟨k + 1, by omega, by go_num, _, rfl, by omega, by omega⟩
      case measure => simp [intOf]; omega
    · clear G1
      go_wp2
      any_goals (go_ret; exact ⟨someBool _, rfl⟩)
      go_loop [9, 11] (fun z i => ∃ k : Nat, k ≤ n2 ∧ i = .int .i64 k ∧ ∃ m : Int, z = .int .i64 m ∧ 0 ≤ m ∧ m ≤ 1048576) (fun _ i => n2 - (intOf i).toNat)
      case atStart => exact ⟨0, Nat.zero_le _, rfl, _, rfl, by omega, by omega⟩
      case round =>
        obtain ⟨k, hk, rfl, m, rfl, hm0, hm1⟩ := hrel
        by_cases hlt : k < n2
        · obtain ⟨b, o, s, ha, hcell, hsz⟩ := G2.out k hlt
          rw [ha]
          clear ha
          go_wp2
          any_goals (go_ret; exact ⟨someBool _, rfl⟩)
          go_round
          case rel => exact ⟨k + 1, by omega, by go_num, _, rfl, by omega, by omega⟩
          case measure => simp [intOf]; omega
        · clear G2
          go_wp2
          any_goals (go_ret; exact ⟨someBool _, rfl⟩)
          go_loop [9, 12] (fun z i => ∃ k : Nat, k ≤ n3 ∧ i = .int .i64 k ∧ ∃ m : Int, z = .int .i64 m ∧ 0 ≤ m ∧ m ≤ 1048576) (fun _ i => n3 - (intOf i).toNat)
          case atStart => exact ⟨0, Nat.zero_le _, rfl, _, rfl, by omega, by omega⟩
          case round =>
            obtain ⟨k, hk, rfl, m, rfl, hm0, hm1⟩ := hrel
            by_cases hlt : k < n3
            · obtain ⟨b, o, s, ha, hcell, hsz⟩ := G3.out k hlt
              rw [ha]
              clear ha
              go_wp2
              any_goals (go_ret; exact ⟨someBool _, rfl⟩)
              go_round
              case rel => exact ⟨k + 1, by omega, by go_num, _, rfl, by omega, by omega⟩
              case measure => simp [intOf]; omega
            · go_wp2
              any_goals (go_ret; exact ⟨someBool _, rfl⟩)

/-- What 'zzBytes' does: it answers some bool and turns nothing. -/
theorem zzBytes8_any (s0 : ByteArray) (a1 a2 a3 : Option Addr) (c1 c2 c3 : Nat) (ss1 ss2 ss3 : List ByteArray) (w : World)
    (h0 : s0.size ≤ maxLen) (h1 : Strs w a1 ss1) (h2 : Strs w a2 ss2) (h3 : Strs w a3 ss3)
    (l1 : ss1.length ≤ maxLen) (l2 : ss2.length ≤ maxLen) (l3 : ss3.length ≤ maxLen)
    (z1 : ∀ s ∈ ss1, s.size ≤ maxLen) (z2 : ∀ s ∈ ss2, s.size ≤ maxLen) (z3 : ∀ s ∈ ss3, s.size ≤ maxLen) :
    Calls Tryf.prog 8 #[.string s0, .slice a1 ss1.length c1, .slice a2 ss2.length c2, .slice a3 ss3.length c3] w fun e w' => SomeBool e ∧ w = w' := by
  have G1 : Hid (∀ k, k < ss1.length → ∃ b o s, a1 = some ⟨b, o, none⟩ ∧ w.cell? ⟨b, o + k, none⟩ = some (.string s) ∧ s.size ≤ 9223372036854775807) := h1.at z1
  have G2 : Hid (∀ k, k < ss2.length → ∃ b o s, a2 = some ⟨b, o, none⟩ ∧ w.cell? ⟨b, o + k, none⟩ = some (.string s) ∧ s.size ≤ 9223372036854775807) := h2.at z2
  have G3 : Hid (∀ k, k < ss3.length → ∃ b o s, a3 = some ⟨b, o, none⟩ ∧ w.cell? ⟨b, o + k, none⟩ = some (.string s) ∧ s.size ≤ 9223372036854775807) := h3.at z3
  clear h1 h2 h3 z1 z2 z3
  unfold maxLen at h0 l1 l2 l3
  generalize ss1.length = n1 at *
  generalize ss2.length = n2 at *
  generalize ss3.length = n3 at *
  go_enter Tryf.func8, Tryf.ntmps8
  go_wp2
  any_goals (go_ret; exact ⟨someBool _, rfl⟩)
  go_loop [9, 10] (fun z i => ∃ k : Nat, k ≤ n1 ∧ i = .int .i64 k ∧ ∃ m : Int, z = .int .i64 m ∧ 0 ≤ m ∧ m ≤ 1048576) (fun _ i => n1 - (intOf i).toNat)
  case atStart => exact ⟨0, Nat.zero_le _, rfl, _, rfl, by omega, by omega⟩
  case round =>
    obtain ⟨k, hk, rfl, m, rfl, hm0, hm1⟩ := hrel
    by_cases hlt : k < n1
    · obtain ⟨b, o, s, ha, hcell, hsz⟩ := G1.out k hlt
      rw [ha]
      clear ha
      go_wp2
      any_goals (go_ret; exact ⟨someBool _, rfl⟩)
      go_round
      case rel => exact ⟨k + 1, by omega, by go_num, _, rfl, by omega, by omega⟩
      case measure => simp [intOf]; omega
    · clear G1
      go_wp2
      any_goals (go_ret; exact ⟨someBool _, rfl⟩)
      go_loop [9, 11] (fun z i => ∃ k : Nat, k ≤ n2 ∧ i = .int .i64 k ∧ ∃ m : Int, z = .int .i64 m ∧ 0 ≤ m ∧ m ≤ 1048576) (fun _ i => n2 - (intOf i).toNat)
      case atStart => exact ⟨0, Nat.zero_le _, rfl, _, rfl, by omega, by omega⟩
      case round =>
        obtain ⟨k, hk, rfl, m, rfl, hm0, hm1⟩ := hrel
        by_cases hlt : k < n2
        · obtain ⟨b, o, s, ha, hcell, hsz⟩ := G2.out k hlt
          rw [ha]
          clear ha
          go_wp2
          any_goals (go_ret; exact ⟨someBool _, rfl⟩)
          go_round
          case rel => exact ⟨k + 1, by omega, by go_num, _, rfl, by omega, by omega⟩
          case measure => simp [intOf]; omega
        · clear G2
          go_wp2
          any_goals (go_ret; exact ⟨someBool _, rfl⟩)
          go_loop [9, 12] (fun z i => ∃ k : Nat, k ≤ n3 ∧ i = .int .i64 k ∧ ∃ m : Int, z = .int .i64 m ∧ 0 ≤ m ∧ m ≤ 1048576) (fun _ i => n3 - (intOf i).toNat)
          case atStart => exact ⟨0, Nat.zero_le _, rfl, _, rfl, by omega, by omega⟩
          case round =>
            obtain ⟨k, hk, rfl, m, rfl, hm0, hm1⟩ := hrel
            by_cases hlt : k < n3
            · obtain ⟨b, o, s, ha, hcell, hsz⟩ := G3.out k hlt
              rw [ha]
              clear ha
              go_wp2
              any_goals (go_ret; exact ⟨someBool _, rfl⟩)
              go_round
              case rel => exact ⟨k + 1, by omega, by go_num, _, rfl, by omega, by omega⟩
              case measure => simp [intOf]; omega
            · go_wp2
              any_goals (go_ret; exact ⟨someBool _, rfl⟩)

end Go.Proofs.Qxb6612389aFmt
