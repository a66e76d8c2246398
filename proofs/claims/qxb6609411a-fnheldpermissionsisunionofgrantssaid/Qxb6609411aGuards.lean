import Derived.Test.Qxb6609411aPerm
import Derived.Test.Qxb6609411aGraph
namespace Go.Proofs.Qxb6609411a
open Go.RowKit Go.Maps Go.WideMaps Go.WideElems

/-- A slice of strings as it came in. -/
def SRow (w : World) (a : Option Addr) (n : Nat) (z : List ByteArray) : Prop :=
  (∀ (i : Nat), i < n → (z.getD i ⟨#[]⟩).size ≤ maxLen) ∧ (n = 0 ∨ ∃ b o, a = some ⟨b, o, none⟩ ∧ b < w.heap.size ∧ ∀ (i : Nat), i < n → w.cell? ⟨b, o + i, none⟩ = some (.string (z.getD i ⟨#[]⟩)))

theorem SRow.below {w w' : World} {a : Option Addr} {n : Nat} {z : List ByteArray} (h : SRow w a n z) (hb : Below w.heap.size w w') : SRow w' a n z := by
  refine ⟨h.1, ?_⟩
  rcases h.2 with h | ⟨b, o, ha, hlt, hc⟩
  · exact .inl h
  · exact .inr ⟨b, o, ha, Nat.lt_of_lt_of_le hlt hb.size, fun i hi => by rw [hb.cell (p := ⟨b, o + i, none⟩) hlt]; exact hc i hi⟩

/-- The call hands back some int. -/
def IntAns (e : Ending) : Prop := ∃ t : Int, e = .returned (.int .i64 t)

set_option maxHeartbeats 1000000 in
theorem strBytes_any (a : Option Addr) (n c : Nat) (z : List ByteArray) (w : World) (h : SRow w a n z) (hn : n ≤ 4096) :
    Calls Try.prog 21 #[.slice a n c] w fun e w' => IntAns e ∧ w = w' := by
  have H := hide h
  clear h
  go_enter Try.func21, Try.ntmps21
  go_wp2_with fail
  go_loopw [3, 4] (fun vt vi wr => ∃ (t : Int) (j : Nat), j ≤ n ∧ vt = .int .i64 t ∧ vi = .int .i64 j ∧ wr = w) (fun _ vi _ => n - (intOf vi).toNat)
  case atStart => exact ⟨0, 0, Nat.zero_le _, rfl, rfl, rfl⟩
  case round =>
    obtain ⟨t, j, hj, rfl, rfl, rfl⟩ := hrel
    by_cases hlt : j < n
    · rcases H.out.2 with J | ⟨b, o, rfl, hb, hc⟩
      · omega
      have c1 := hc j hlt
      have hsz := H.out.1 j hlt
      clear hc
      generalize z.getD j ⟨#[]⟩ = s at *
      have h0 : (0 : Int) ≤ (j : Int) := Int.natCast_nonneg j
      have h1 : (j : Int) < (n : Int) := by omega
      go_upto_region 6 with fail
      generalize ht : wrap64 (t + wrap64 (16 + (s.size : Int))) = t'
      by_cases hb : (1048576 : Int) < t'
      · go_wp2_with fail
        go_ret
        exact ⟨⟨_, rfl⟩, rfl⟩
      · go_wp2_with fail
        refine ⟨⟨t', j + 1, by omega, rfl, by rfl, by trivial⟩, ?_⟩
        simp only [intOf]
        omega
    · have hjN : j = n := by omega
      subst hjN
      go_wp2_with fail
      go_ret
      exact ⟨⟨_, rfl⟩, rfl⟩

/-- indicesOK's answer. -/
def IAns (N : Int) (n : Nat) (z : List Int) (e : Ending) : Prop := e = .returned (.bool true) ∧ (∀ (i : Nat), i < n → 0 ≤ z.getD i 0 ∧ z.getD i 0 < N) ∨ e = .returned (.bool false)

set_option maxHeartbeats 1000000 in
theorem indices_any (N : Int) (a : Option Addr) (n c : Nat) (z : List Int) (w : World) (h : IRow w a n z) (hn : n ≤ 4096) :
    Calls Try.prog 23 #[.int .i64 N, .slice a n c] w fun e w' => IAns N n z e ∧ Below w.heap.size w w' := by
  have H := hide h
  clear h
  go_enter Try.func23, Try.ntmps23
  go_wp2_with fail
  go_loopw [5] (fun vi wr => ∃ (j : Nat), j ≤ n ∧ vi = .int .i64 j ∧ (∀ (i : Nat), i < j → 0 ≤ z.getD i 0 ∧ z.getD i 0 < N) ∧ Below w.heap.size w wr) (fun vi _ => n - (intOf vi).toNat)
  case atStart => exact ⟨0, Nat.zero_le _, rfl, fun i h => absurd h (Nat.not_lt_zero _), Below.refl _ _⟩
  case round =>
    obtain ⟨j, hj, rfl, hG, hbe⟩ := hrel
    have HG := hide hG
    have HBE := hide hbe
    clear hG hbe
    by_cases hlt : j < n
    · rcases H.out with J | ⟨b, o, rfl, hb, hc⟩
      · omega
      have c1 : wr.cell? ⟨b, o + j, none⟩ = _ := (HBE.out.cell (p := ⟨b, o + j, none⟩) hb).trans (hc j hlt)
      clear hc
      generalize hxe : z.getD j 0 = x at *
      have h0 : (0 : Int) ≤ (j : Int) := Int.natCast_nonneg j
      have h1 : (j : Int) < (n : Int) := by omega
      by_cases g1 : x < 0
      · go_wp2_with fail
        go_ret
        exact ⟨.inr rfl, HBE.out⟩
      · by_cases g2 : N ≤ x
        · go_wp2_with fail
          go_ret
          exact ⟨.inr rfl, HBE.out⟩
        · go_wp2_with fail
          refine ⟨⟨j + 1, by omega, by rfl, fun i hi => ?_, HBE.out⟩, ?_⟩
          · by_cases hij : i = j
            · subst hij
              rw [hxe]
              omega
            · exact HG.out i (by omega)
          · simp only [intOf]
            omega
    · have hjN : j = n := by omega
      subst hjN
      go_wp2_with fail
      go_ret
      exact ⟨.inl ⟨rfl, HG.out⟩, HBE.out⟩

/-- grantsOK's answer. -/
def GAns (N : Int) (n1 n2 n3 : Nat) (z : List Int) (e : Ending) : Prop := e = .returned (.bool true) ∧ n1 = n2 ∧ n1 = n3 ∧ (∀ (i : Nat), i < n1 → 0 ≤ z.getD i 0 ∧ z.getD i 0 < N) ∨ e = .returned (.bool false)

theorem grants_any (N : Int) (a1 a2 a3 : Option Addr) (n1 n2 n3 c1 c2 c3 : Nat) (z : List Int) (w : World) (h : IRow w a1 n1 z) (hn : n1 ≤ 4096) :
    Calls Try.prog 22 #[.int .i64 N, .slice a1 n1 c1, .slice a2 n2 c2, .slice a3 n3 c3] w fun e w' => GAns N n1 n2 n3 z e ∧ Below w.heap.size w w' := by
  by_cases e1 : n1 = n2
  · by_cases e2 : n1 = n3
    · subst e1; subst e2
      go_enter Try.func22, Try.ntmps22
      go_wp2_with fail
      refine (indices_any N a1 n1 c1 z w h hn).mono ?_
      rintro e w' ⟨⟨rfl, hG⟩ | rfl, hb⟩
      · have HG := hide hG
        have HB := hide hb
        clear hG hb
        go_wp2_with fail
        go_ret
        exact ⟨.inl ⟨rfl, rfl, rfl, HG.out⟩, HB.out⟩
      · go_wp2_with fail
        go_ret
        exact ⟨.inr rfl, hb⟩
    · subst e1
      have hne : (n1 : Int) ≠ (n3 : Int) := by omega
      go_enter Try.func22, Try.ntmps22
      go_wp2_with fail
      go_ret
      exact ⟨.inr rfl, Below.refl _ _⟩
  · have hne : (n1 : Int) ≠ (n2 : Int) := by omega
    go_enter Try.func22, Try.ntmps22
    go_wp2_with fail
    go_ret
    exact ⟨.inr rfl, Below.refl _ _⟩

/-- The call hands back some bool. -/
def BoolAns (e : Ending) : Prop := e = .returned (.bool true) ∨ e = .returned (.bool false)

set_option maxHeartbeats 2000000 in
theorem bytes32 (x0 : Int) (a1 a2 a3 : Option Addr) (n1 n2 n3 c1 c2 c3 : Nat) (z2 z3 : List ByteArray) (w : World) (h2 : SRow w a2 n2 z2) (h3 : SRow w a3 n3 z3) :
    Calls Try.prog 32 #[.int .i64 x0, .slice a1 n1 c1, .slice a2 n2 c2, .slice a3 n3 c3] w fun e w' => BoolAns e ∧ w = w' := by
  have H2 := hide h2
  have H3 := hide h3
  clear h2 h3
  go_enter Try.func32, Try.ntmps32
  by_cases g1 : (1048576 : Int) < (n1 : Int)
  · go_wp2_with fail
    go_ret
    exact ⟨.inr rfl, rfl⟩
  by_cases g2 : (1048576 : Int) < (n2 : Int)
  · go_wp2_with fail
    go_ret
    exact ⟨.inr rfl, rfl⟩
  have hw : IntKind.i64.wrap ((n1 : Int) + (n2 : Int)) = (n1 : Int) + (n2 : Int) := by rw [IntKind.wrap_i64]; omega
  by_cases g3 : (1048576 : Int) < (n1 : Int) + (n2 : Int)
  · go_wp2_with fail
    go_ret
    exact ⟨.inr rfl, rfl⟩
  go_wp2_with fail
  go_loopw [9, 10] (fun vt vi wr => ∃ (t : Int) (j : Nat), j ≤ n2 ∧ vt = .int .i64 t ∧ vi = .int .i64 j ∧ wr = w) (fun _ vi _ => n2 - (intOf vi).toNat)
  case atStart => exact ⟨_, 0, Nat.zero_le _, rfl, rfl, rfl⟩
  case round =>
    obtain ⟨t, j, hj, rfl, rfl, rfl⟩ := hrel
    by_cases hlt : j < n2
    · rcases H2.out.2 with J | ⟨b, o, rfl, hb, hc⟩
      · omega
      have c1 := hc j hlt
      have hsz := H2.out.1 j hlt
      clear hc
      generalize z2.getD j ⟨#[]⟩ = s at *
      have h0 : (0 : Int) ≤ (j : Int) := Int.natCast_nonneg j
      have h1 : (j : Int) < (n2 : Int) := by omega
      by_cases g4 : (1048576 : Int) < (s.size : Int)
      · go_wp2_with fail
        go_ret
        exact ⟨.inr rfl, rfl⟩
      go_upto_region 18 with fail
      generalize ht : wrap64 (t + (s.size : Int)) = t'
      by_cases g5 : (1048576 : Int) < t'
      · go_wp2_with fail
        go_ret
        exact ⟨.inr rfl, rfl⟩
      · go_wp2_with fail
        refine ⟨⟨t', j + 1, by omega, rfl, by rfl, by trivial⟩, ?_⟩
        simp only [intOf]
        omega
    · have hjN : j = n2 := by omega
      subst hjN
      by_cases g6 : (1048576 : Int) < (n3 : Int)
      · go_wp2_with fail
        go_ret
        exact ⟨.inr rfl, rfl⟩
      go_upto_region 23 with fail
      generalize ht : wrap64 (t + (n3 : Int)) = t'
      by_cases g7 : (1048576 : Int) < t'
      · go_wp2_with fail
        go_ret
        exact ⟨.inr rfl, rfl⟩
      go_wp2_with fail
      go_loopw [9, 11] (fun vt vi wx => ∃ (t : Int) (j : Nat), j ≤ n3 ∧ vt = .int .i64 t ∧ vi = .int .i64 j ∧ wx = wr) (fun _ vi _ => n3 - (intOf vi).toNat)
      case atStart => exact ⟨_, 0, Nat.zero_le _, rfl, rfl, rfl⟩
      case round =>
        obtain ⟨t2, i, hi, rfl, rfl, rfl⟩ := hrel
        by_cases hlt : i < n3
        · rcases H3.out.2 with J | ⟨b, o, rfl, hb, hc⟩
          · omega
          have c1 := hc i hlt
          have hsz := H3.out.1 i hlt
          clear hc
          generalize z3.getD i ⟨#[]⟩ = s at *
          have h0 : (0 : Int) ≤ (i : Int) := Int.natCast_nonneg i
          have h1 : (i : Int) < (n3 : Int) := by omega
          by_cases g4 : (1048576 : Int) < (s.size : Int)
          · go_wp2_with fail
            go_ret
            exact ⟨.inr rfl, rfl⟩
          go_upto_region 31 with fail
          generalize ht : wrap64 (t2 + (s.size : Int)) = t'
          by_cases g5 : (1048576 : Int) < t'
          · go_wp2_with fail
            go_ret
            exact ⟨.inr rfl, rfl⟩
          · go_wp2_with fail
            refine ⟨⟨t', i + 1, by omega, rfl, by rfl, by trivial⟩, ?_⟩
            simp only [intOf]
            omega
        · have hiN : i = n3 := by omega
          subst hiN
          go_wp2_with fail
          go_ret
          exact ⟨.inl rfl, rfl⟩
end Go.Proofs.Qxb6609411a
