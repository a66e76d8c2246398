/-
  A PROOF OF 'Rows.FnIsHexDigitMatchesDigitListSaid' ('example.com/badged/badged/zzlaws_root_b1.FnIsHexDigitMatchesDigitList'), WRITTEN BY PROGRAM (proof-skeleton.mjs) off the guide's own print for that function. Not trusted: Lean checks it.
  The walk is filled in; all else is the guide's template at this function's number and types.
-/
import Derived.Test.Qxb6609411aHex
import Derived.WalkKit
import Derived.ProofKit
import Derived.OpenShut
import Derived.ShutString
namespace Go.Proofs.Qxb6609411a.fnIsHexDigitMatchesDigitList
open Go.ChangeShapes Go.WideShapes Go.ChangeAt Go.RowKit
open Go.ChangeMaps (open_string shut_string)
set_option linter.unusedVariables false      -- a walk need not use every 'w<i>' (that an integer argument fits its kind)

theorem own : ownKnob Try.prog.godebug = none := by kernel_rfl

def digs : List Int := [48, 49, 50, 51, 52, 53, 54, 55, 56, 57, 97, 98, 99, 100, 101, 102, 65, 66, 67, 68, 69, 70]
def dstr : ByteArray := { data := #[48, 49, 50, 51, 52, 53, 54, 55, 56, 57, 97, 98, 99, 100, 101, 102, 65, 66, 67, 68, 69, 70] }
def wantTo (c : Int) (k : Nat) : Bool := (digs.take k).any (· == c)
theorem dstr_at : ∀ k : Fin 22, ((dstr.data[k.val]'k.isLt).toNat : Int) = digs[k.val]'k.isLt := by decide
theorem want_step (c : Int) (k : Nat) (h : k < 22) (b : Bool) (hb : (((dstr[k]'h).toNat : Int) == c) = b) : wantTo c (k + 1) = (wantTo c k || b) := by
  have e := dstr_at ⟨k, h⟩
  have e2 : (((dstr[k]'h).toNat : Int)) = digs[k]'h := e
  rw [e2] at hb
  unfold wantTo
  rw [List.take_succ_eq_append_getElem (show k < digs.length from h), List.any_append]
  rw [← hb]
  exact congrArg _ (Bool.or_false _)
theorem want_all (c : Int) : wantTo c 22 = hexB c := by
  rw [Bool.eq_iff_iff]
  simp [wantTo, digs, hexB]
  omega

/-! ### STEP 1: THE WALK: the Go text returns true. 'Grown w w'': the world has at most new blocks (Derived/RowKit3.lean). Part the cases AHEAD of 'go_enter' where a test parts the walk; take each callee by a contract of your own. -/
theorem walk (a0 : Int) (w0 : (Lit.int .u8 a0).wf = true) (w : World) :
    Calls Try.prog 3 #[.int .u8 a0] w fun e w' => e = .returned (.bool true) ∧ Grown w w' := by
  have hb : 0 ≤ a0 ∧ a0 ≤ 255 := by have := bounds_u8 w0; omega
  obtain ⟨h0, h1⟩ := hb
  go_enter Try.func3, Try.ntmps3
  go_wp2
  go_loop [3, 4] (fun want i => ∃ k : Nat, k ≤ 22 ∧ i = .int .i64 k ∧ want = .bool (wantTo a0 k)) (fun _ i => 22 - (intOf i).toNat)
  case atStart => exact ⟨0, Nat.zero_le _, rfl, rfl⟩
  case round =>
    obtain ⟨k, hk, rfl, rfl⟩ := hrel
    by_cases hlt : k < 22
    · go_wp2
      · go_round
        case rel => exact ⟨k + 1, by omega, by go_num, by rw [want_step a0 k hlt true ‹_›]; simp⟩
        case measure => simp [intOf]; omega
      · go_round
        case rel => exact ⟨k + 1, by omega, by go_num, by rw [want_step a0 k hlt false ‹_›]; simp⟩
        case measure => simp [intOf]; omega
    · have hk2 : k = 22 := by omega
      subst hk2
      go_wp2_with (go_at_call 10; refine (zzHex_any _ _).mono ?_; rintro e w' ⟨rfl, rfl⟩)
      go_ret
      exact ⟨ret_bool (by rw [want_all]; simp), Grown.refl _⟩

/-! ### THE ROW's STEP: WRITTEN OUT: LEAVE IT -/
set_option maxRecDepth 100000 in
theorem lifted (os : Os) (started : os.Started) (H : Type) (enc : TypeId × Value → H) :
    ReturnsInHanded {} Try.checked os 3 .any (Rows.fnIsHexDigitMatchesDigitListSpec.pre6 enc Try.prog Try.f3 Rows.fnIsHexDigitMatchesDigitListRow.domain false) (Rows.fnIsHexDigitMatchesDigitListSpec.post enc Try.prog Try.f3 false true false false) := by
  refine returnsInHanded_of_change (C := Try.checked) own started (by kernel_rfl) Try.func3
    (ChangeSpec.witness6 (enc := enc) (C := Try.checked) false ⟨#[], #[.int .u8 0], []⟩ 8 (by kernel_rfl) (by kernel_rfl) (by kernel_rfl) (by kernel_rfl)) ?_
  intro W base args ds gs before hval0 hW hcnd _
  have hval : ∀ (j : Nat) t v, Try.f3.params[j]? = some t → args[j]? = some v → Value.okWide Try.prog W .any base t v := hval0
  have hW' := hW
  obtain ⟨p, q, hA0, hV, rfl, hfz, hnd⟩ := hW
  have hA : DataW.TrodAll enc Try.prog W 0 (fun _ => true) true Try.f3.params.toList args.toList ds p := hA0
  rw [Try.params3] at hA hval
  obtain ⟨v0, vs0, d0, ds0, p0, q0, hargs, rfl, rfl, h0, r0⟩ := trodAll_cons hA
  obtain ⟨rfl, rfl, rfl⟩ := trodAll_nil r0
  obtain rfl : args = #[v0] := by cases args; simp_all
  obtain ⟨rfl, rfl⟩ := trodVars_none hV
  obtain ⟨a0, rfl, rfl, rfl, w0⟩ := open_int Try.underlying5 (hval 0 5 v0 rfl rfl) h0
  clear hA0 hval0
  simp only [List.append_nil] at hW'
  refine (walk a0 w0 W).mono fun e W' ⟨he, hg⟩ => ?_
  subst he
  exact ⟨_, rfl, post_of_same (pa := []) (pv := []) hW' (fun _ _ _ => (trodAll_cons_mk (shut_bool Try.underlying4 _) trodAll_mk0)) (fun sp _ => (trodAll_cons_mk (shut_int Try.underlying5 w0) trodAll_mk0)) (fun _ _ => rfl) rfl
    (hg.frame _) hg.2.1 (ok_one (by kernel_rfl) rfl (okWide_bool_mk Try.underlying4 _))⟩

theorem over : Rows.fnIsHexDigitMatchesDigitListRow.holds Try.pinned (OpenSpec.ofChange Rows.fnIsHexDigitMatchesDigitListSpec) :=
  OpenClaim.holds_of_wide 3 Try.f3 rfl rfl rfl rfl rfl rfl rfl ⟨rfl, rfl, rfl, rfl, rfl⟩ rfl rfl rfl rfl rfl (by kernel_rfl) Try.func3 (by kernel_rfl)
    (of_decide_eq_true (by kernel_rfl)) (by unfold Func.isWrapper; first | (rw [if_pos (by decide +kernel)]; kernel_rfl) | (rw [if_neg (by decide +kernel)]; exact ⟨rfl, rfl⟩))
    (fun os started H enc _ => lifted os started H enc)

/-- ████ THE STATEMENT ████ -/
theorem proved : Rows.FnIsHexDigitMatchesDigitListSaid :=
  over
#print axioms proved
end Go.Proofs.Qxb6609411a.fnIsHexDigitMatchesDigitList
