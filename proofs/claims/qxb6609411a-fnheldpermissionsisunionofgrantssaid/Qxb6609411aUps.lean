import Derived.Test.Qxb6609411aDual
import Derived.Deep.OwnRows
namespace Go.Proofs.Qxb6609411a
open Go.RowKit Go.Maps Go.WideMaps Go.WideElems

/-- How many of the first n are not marked. -/
def cntF (S : Nat → Bool) : Nat → Nat
  | 0 => 0
  | n + 1 => cntF S n + (if S n then 0 else 1)
theorem cntF_congr {S T : Nat → Bool} {n : Nat} (h : ∀ v, v < n → S v = T v) : cntF S n = cntF T n := by
  induction n with
  | zero => rfl
  | succ n ih => unfold cntF; rw [ih (fun v hv => h v (by omega)), h n (by omega)]
theorem cntF_mark {S : Nat → Bool} {y n : Nat} (hy : y < n) (hS : S y = false) : cntF (fun v => if v = y then true else S v) n < cntF S n := by
  induction n with
  | zero => omega
  | succ n ih =>
    unfold cntF
    by_cases e : y = n
    · subst e
      rw [cntF_congr (T := S) (fun v hv => if_neg (by omega)), if_pos rfl, hS]
      simp
    · have := ih (by omega)
      have e2 : n ≠ y := fun h => e h.symm
      simp only [if_neg e2]
      omega

def isT : Option Value → Bool
  | some (.bool b) => b
  | _ => false
/-- A row of booleans. -/
def Bools (w : World) (sb N : Nat) (S : Nat → Bool) : Prop := w.rowIs sb 4 N (fun v => .bool (S v))
theorem Bools.cell {w : World} {sb N : Nat} {S : Nat → Bool} (h : Bools w sb N S) {v : Nat} (hv : v < N) : w.cell? ⟨sb, v, none⟩ = some (.bool (S v)) := World.rowIs.cell h hv
theorem Bools.frozen {w : World} {sb N : Nat} {S : Nat → Bool} (h : Bools w sb N S) (v : Nat) : w.frozen? ⟨sb, v, none⟩ = false := World.rowIs.frozen h v
def unseen (w : World) (sb N : Nat) : Nat := cntF (fun v => isT (w.cell? ⟨sb, v, none⟩)) N
theorem Bools.unseen {w : World} {sb N : Nat} {S : Nat → Bool} (h : Bools w sb N S) : unseen w sb N = cntF S N :=
  cntF_congr fun v hv => by rw [h.cell hv]; rfl
theorem Bools.mark {w : World} {sb N : Nat} {S : Nat → Bool} (h : Bools w sb N S) (y : Nat) : Bools (w.setCell ⟨sb, y, none⟩ (.bool true)) sb N (fun v => if v = y then true else S v) := by
  refine World.rowIs.congr (World.rowIs.set h y (.bool true)) (fun i _ => ?_)
  show (if i = y then Value.bool true else Value.bool (S i)) = Value.bool (if i = y then true else S i)
  split <;> rfl
theorem Bools.below {w w' : World} {sb N : Nat} {S : Nat → Bool} (h : Bools w sb N S) (hb : Below w.heap.size w w') : Bools w' sb N S := World.rowIs.of_block h (hb.block _ (World.rowIs.lt h))

theorem make33 (n : Nat) (h : n ≤ 4096) (w : World) : (Instr.makeSlice 33 (.int .i64 (n : Int)) (.int .i64 (n : Int))).run Try.prog w = .ok (.slice (some ⟨w.heap.size, 0, none⟩) n n) (w.alloc (.cells (madeCells #[.bool false] n) 4)) :=
  run_make_row' (P := Try.prog) 33 4 (.bool false) 1 Try.underlying33 (by kernel_rfl) rfl .i64 .i64 n (by omega) (by omega) w

theorem bools_made (w : World) (n : Nat) : Bools (w.alloc (.cells (madeCells #[.bool false] n) 4)) w.heap.size n (fun _ => false) := World.rowIs_made w (.bool false) n 4

def boolOf : Value → Nat
  | .bool true => 1
  | _ => 0

/-- What holds of the marks all along. -/
structure Marks (w : World) (base sb N a : Nat) (se : Nat → List Nat) (S : Nat → Bool) (W : World) : Prop where
  at_ : Bools W sb N S
  start : S a = true
  sound : ∀ v, v < N → S v = true → Rch [a] se v
  below : Below base w W

set_option maxHeartbeats 2000000 in
set_option maxRecDepth 20000 in
theorem ups_any (N a : Nat) (a1 a2 : Option Addr) (c1 c2 : Nat) (lo hi : List Nat) (w : World) (hN : N ≤ 4096) (ha : a < N) (h1 : IntsN w a1 lo) (h2 : IntsN w a2 hi) (hl : lo.length ≤ 4096) (hlen : hi.length = lo.length)
    (hlo : ∀ (i : Nat) x, lo[i]? = some x → x < N) (hhi : ∀ (i : Nat) x, hi[i]? = some x → x < N) :
    Calls Try.prog 17 #[.int .i64 (N : Int), .slice a1 lo.length c1, .slice a2 lo.length c2, .int .i64 (a : Int)] w fun e w' =>
      ∃ sb S, e = .returned (.slice (some ⟨sb, 0, none⟩) N N) ∧ Bools w' sb N S ∧ (∀ v, v < N → (S v = true ↔ Rch [a] (seT lo hi lo.length) v)) ∧ Below w.heap.size w w' := by
  have H1 := hide h1
  have H2 := hide h2
  have HLO := hide hlo
  have HHI := hide hhi
  have hmk := make33 N hN
  have HBM := hide (bools_made w N)
  have hfa := HBM.out.cell ha
  have hfz := HBM.out.frozen a
  have hai0 : (0 : Int) ≤ (a : Int) := Int.natCast_nonneg a
  have hai1 : (a : Int) < (N : Int) := by omega
  clear h1 h2 hlo hhi
  go_enter Try.func17, Try.ntmps17
  go_wp2_with fail
  have hM0 : Marks w w.heap.size w.heap.size N a (seT lo hi lo.length) (fun v => if v = a then true else false) ((w.alloc (.cells (madeCells #[.bool false] N) 4)).setCell ⟨w.heap.size, a, none⟩ (.bool true)) := by
    refine ⟨HBM.out.mark a, if_pos rfl, fun v _ hv => ?_, ((Below.refl _ w).alloc (Nat.le_refl _) _).setCell (p := ⟨w.heap.size, a, none⟩) (Nat.le_refl _) _⟩
    by_cases e : v = a
    · subst e; exact Rch.self _ _
    · rw [if_neg e] at hv; cases hv
  have he : ((w.alloc (.cells (madeCells #[.bool false] N) 4)).setCell ⟨w.heap.size, a, none⟩ (.bool true)) = w.alloc (.cells ((madeCells #[.bool false] N).setIfInBounds a (.bool true)) 4) := by simp [go_sem]
  rw [he] at hM0
  have HM0 := hide hM0
  clear hM0 he
  clear hfa hfz HBM
  go_loopw [10, 11] (fun vc _ wr => ∃ (cb : Bool) (S : Nat → Bool), vc = .bool cb ∧ Marks w w.heap.size w.heap.size N a (seT lo hi lo.length) S wr ∧ (cb = false → ∀ i, i < lo.length → S (lo.getD i 0) = true → S (hi.getD i 0) = true)) (fun vc _ wr => 2 * unseen wr w.heap.size N + boolOf vc)
  case atStart => exact ⟨true, _, rfl, HM0.out, fun h => by cases h⟩
  case round =>
    clear HM0
    obtain ⟨cb, S, rfl, hM, hcl⟩ := hrel
    have HM := hide hM
    have HCL := hide hcl
    clear hM hcl
    cases cb with
    | false =>
      go_wp2
      go_ret
      refine ⟨w.heap.size, rfl, S, HM.out.at_, fun v hv => ⟨HM.out.sound v hv, fun hr => ?_⟩, HM.out.below⟩
      refine (hr (fun v => S v = true) (fun u hu => by rw [List.mem_singleton.1 hu]; exact HM.out.start) (fun u hu x hx => ?_))
      obtain ⟨i, h1, h2, h3⟩ := (mem_seT lo hi lo.length x u).1 hx
      rw [← h3]
      exact HCL.out (by first | rfl | trivial) i h1 (by rw [h2]; exact hu)
    | true =>
      obtain ⟨W0, hW0⟩ : ∃ W0, W0 = wr := ⟨_, rfl⟩
      subst hW0
      go_wp2_with fail
      go_loopw [10, 11] (fun vc vi wx => ∃ (cb : Bool) (T : Nat → Bool) (j : Nat), vc = .bool cb ∧ vi = .int .i64 j ∧ j ≤ lo.length ∧ Marks w w.heap.size w.heap.size N a (seT lo hi lo.length) T wx ∧ (cb = false → ∀ i, i < j → T (lo.getD i 0) = true → T (hi.getD i 0) = true) ∧ unseen wx w.heap.size N + (if cb then 1 else 0) ≤ unseen W0 w.heap.size N) (fun _ vi _ => lo.length - (intOf vi).toNat)
      case atStart => exact ⟨false, S, 0, rfl, rfl, Nat.zero_le _, HM.out, fun _ i h => absurd h (Nat.not_lt_zero _), Nat.le_refl _⟩
      case round =>
        clear HM HCL
        obtain ⟨cb, T, j, rfl, rfl, hj, hM, hcl, hun⟩ := hrel
        have HM := hide hM
        have HCL := hide hcl
        clear hM hcl
        by_cases hlt : j < lo.length
        · have e1 : lo[j]? = some (lo.getD j 0) := by simp [hlt]
          have e2 : hi[j]? = some (hi.getD j 0) := by simp [hlen, hlt]
          have hx := HLO.out j _ e1
          have hy := HHI.out j _ e2
          rcases H1.out with J1 | ⟨b1, o1, rfl, hb1w, hc1⟩
          · subst J1; exact absurd hlt (Nat.not_lt_zero _)
          rcases H2.out with J2 | ⟨b2, o2, rfl, hb2w, hc2⟩
          · subst J2; simp at hlen; omega
          have c1 : wr.cell? ⟨b1, o1 + j, none⟩ = _ := (HM.out.below.cell (p := ⟨b1, o1 + j, none⟩) hb1w).trans (hc1 j _ e1)
          have c2 : wr.cell? ⟨b2, o2 + j, none⟩ = _ := (HM.out.below.cell (p := ⟨b2, o2 + j, none⟩) hb2w).trans (hc2 j _ e2)
          have hmem := mem_seT lo hi lo.length (hi.getD j 0) (lo.getD j 0)
          clear hc1 hc2
          generalize hxe : lo.getD j 0 = x at *
          generalize hye : hi.getD j 0 = y at *
          have cx := HM.out.at_.cell hx
          have cy := HM.out.at_.cell hy
          have fy := HM.out.at_.frozen y
          have h0 : (0 : Int) ≤ (j : Int) := Int.natCast_nonneg j
          have h1 : (j : Int) < (lo.length : Int) := by omega
          have h2 : (0 : Int) ≤ (x : Int) := Int.natCast_nonneg x
          have h3 : (x : Int) < (N : Int) := by omega
          have h4 : (0 : Int) ≤ (y : Int) := Int.natCast_nonneg y
          have h5 : (y : Int) < (N : Int) := by omega
          cases hTx : T x with
          | false =>
            rw [hTx] at cx
            go_wp2_with fail
            refine ⟨⟨cb, T, j + 1, rfl, by rfl, by omega, HM.out, fun hc i hi => ?_, hun⟩, ?_⟩
            · by_cases e : i = j
              · subst e; rw [hxe, hTx]; intro h; cases h
              · exact HCL.out hc i (by omega)
            · simp only [intOf]
              omega
          | true =>
            rw [hTx] at cx
            cases hTy : T y with
            | true =>
              rw [hTy] at cy
              go_wp2_with fail
              refine ⟨⟨cb, T, j + 1, rfl, by rfl, by omega, HM.out, fun hc i hi => ?_, hun⟩, ?_⟩
              · by_cases e : i = j
                · subst e; rw [hye]; intro _; exact hTy
                · exact HCL.out hc i (by omega)
              · simp only [intOf]
                omega
            | false =>
              rw [hTy] at cy
              have hM2 : Marks w w.heap.size w.heap.size N a (seT lo hi lo.length) (fun v => if v = y then true else T v) (wr.setCell ⟨w.heap.size, y, none⟩ (.bool true)) := by
                refine ⟨HM.out.at_.mark y, ?_, fun v hv hs => ?_, HM.out.below.setCell (p := ⟨w.heap.size, y, none⟩) (Nat.le_refl _) _⟩
                · show (if a = y then true else T a) = true
                  rw [HM.out.start]; split <;> rfl
                · by_cases e : v = y
                  · subst e
                    exact (HM.out.sound x hx hTx).next (hmem.2 ⟨j, hlt, hxe, hye⟩)
                  · rw [if_neg e] at hs
                    exact HM.out.sound v hv hs
              have hlt2 := cntF_mark hy hTy
              have hu1 := hM2.at_.unseen
              have hu2 := HM.out.at_.unseen
              have hfin : unseen (wr.setCell ⟨w.heap.size, y, none⟩ (.bool true)) w.heap.size N + 1 ≤ unseen W0 w.heap.size N := by
                rw [hu1]
                rw [hu2] at hun
                have : 0 ≤ (if cb = true then 1 else 0) := Nat.zero_le _
                omega
              have HM2 := hide hM2
              have HF := hide hfin
              clear hM2 hlt2 hu1 hu2 hfin hmem
              go_wp2_with fail
              refine ⟨⟨true, _, j + 1, rfl, by rfl, by omega, HM2.out, fun hc => ?_, HF.out⟩, ?_⟩
              · cases hc
              · simp only [intOf]
                omega
        · have hjN : j = lo.length := by omega
          subst hjN
          go_wp2_with fail
          refine ⟨⟨cb, T, rfl, HM.out, HCL.out⟩, ?_⟩
          cases cb <;> simp [boolOf] at hun ⊢ <;> omega
end Go.Proofs.Qxb6609411a
