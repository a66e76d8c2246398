import Derived.Test.Qxb6609411aRows
import Derived.Test.Qxb6609411aMain9
import Derived.WalkKit
import Derived.ProofKit
import Derived.OpenShut
import Derived.ShutString
import Derived.ChangeOld
import Derived.Below
import Derived.SliceStrings
namespace Go.Proofs.Qxb6609411a.fnHeldPermissionsIsUnionOfGrants
open Go.ChangeShapes Go.WideShapes Go.ChangeAt Go.RowKit
open Go.ChangeMaps (open_string shut_string)
set_option linter.unusedVariables false

theorem own : ownKnob Try.prog.godebug = none := by kernel_rfl
theorem laidOut : laidOutB Try.prog = true := by kernel_rfl

/-- WHAT THE WALK IS TOLD OF A SLICE OF INTEGERS THAT CAME IN: it is nil; or it leads to a row of 'cap' cells, the numbers 'zs' (the first 'len' are its elements, the rest its spare room), each fitting its kind. -/
def IsRow (k : IntKind) (w : World) (a : Option Addr) (len cap : Nat) (zs : List Int) : Prop :=
  (a = none ∧ len = 0 ∧ cap = 0 ∧ zs = []) ∨
  ∃ x, a = some x ∧ len ≤ cap ∧ cap ≤ maxLen ∧ zs.length = cap ∧ (∀ i, i < zs.length → w.cell? (x.add i) = some (.int k (zs.getD i 0))) ∧ ∀ n ∈ zs, (Lit.int k n).wf = true

theorem isRow_iRow {w : World} {a : Option Addr} {len cap : Nat} {zs : List Int} (h : IsRow .i64 w a len cap zs) : IRow w a len zs := by
  rcases h with ⟨_, h, _⟩ | ⟨x, rfl, hlc, _, hz, hc, _⟩
  · exact .inl h
  · by_cases h0 : len = 0
    · exact .inl h0
    · have h00 := hc 0 (by omega)
      have e0 : x.add 0 = x := by simp [Addr.add]
      rw [e0] at h00
      have hb := World.block_lt_of_cell? w _ h00
      obtain ⟨b, o, sp⟩ := x
      have hsp : sp = none := by
        cases sp with
        | none => rfl
        | some y =>
          simp only [World.cell?] at h00
          split at h00 <;> simp at h00
      subst hsp
      refine .inr ⟨b, o, rfl, hb, fun i hi => ?_⟩
      have := hc i (by omega)
      by_cases hi0 : i = 0
      · subst hi0; rw [e0] at this; exact this
      · simpa [Addr.add, hi0] using this

set_option maxRecDepth 100000 in
/-- A slice of strings that came in, as the walk takes it. -/
theorem strs_in {H : Type} {enc : TypeId × Value → H} {W : World} {v : Value} {base : Nat} {x : DataW H} {p : List MemPlace} (hv : Value.okWide Try.prog W .any base 37 v) (h : DataW.Trod enc Try.prog W 0 (fun _ => true) true 37 v x p) :
    ∃ a len cap ss, v = .slice a len cap ∧ SRow W a len ss := by
  obtain ⟨a, len, cap, rfl⟩ := okWide_slice Try.underlying37 hv
  obtain ⟨fuel, hf⟩ := h
  rcases open_strings Try.underlying37 Try.underlying9 (by kernel_rfl) hf with ⟨hcs, _⟩ | ⟨a', l, c, ss, hcs, _, hl, hm, hz, _, hcell, hwz⟩
  · simp [Value.cells] at hcs
    obtain ⟨rfl, rfl, rfl⟩ := hcs
    exact ⟨none, 0, 0, [], rfl, fun i h => absurd h (Nat.not_lt_zero _), .inl rfl⟩
  · simp [Value.cells] at hcs
    obtain ⟨rfl, rfl, rfl⟩ := hcs
    have hzc : ss.length = cap := by simpa using hz
    have hcell' : ∀ (i : Nat), i < ss.length → W.cell? (a'.add i) = some (.string (ss.getD i ⟨#[]⟩)) := hcell
    have hg : ∀ (i : Nat), i < len → ss[i]? = some (ss.getD i ⟨#[]⟩) := fun i hi => by simp [show i < ss.length by omega]
    refine ⟨some a', len, cap, ss, rfl, fun i hi => hwz _ (List.mem_of_getElem? (hg i hi)), ?_⟩
    by_cases h0 : len = 0
    · exact .inl h0
    · have h00 := hcell' 0 (by omega)
      have e0 : a'.add 0 = a' := by simp [Addr.add]
      rw [e0] at h00
      have hb := World.block_lt_of_cell? W _ h00
      obtain ⟨b, o, sp⟩ := a'
      have hsp : sp = none := by
        cases sp with
        | none => rfl
        | some y =>
          simp only [World.cell?] at h00
          split at h00 <;> simp at h00
      subst hsp
      refine .inr ⟨b, o, rfl, hb, fun i hi => ?_⟩
      have := hcell' i (by omega)
      by_cases hi0 : i = 0
      · subst hi0; rw [e0] at this; exact this
      · simpa [Addr.add, hi0] using this

set_option maxRecDepth 100000 in
theorem lifted (os : Os) (started : os.Started) (H : Type) (enc : TypeId × Value → H) :
    ReturnsInHanded {} Try.checked os 9 .any (Rows.fnHeldPermissionsIsUnionOfGrantsSpec.pre6 enc Try.prog Try.f9 Rows.fnHeldPermissionsIsUnionOfGrantsRow.domain false) (Rows.fnHeldPermissionsIsUnionOfGrantsSpec.post enc Try.prog Try.f9 false true false false) := by
  refine returnsInHanded_of_change (C := Try.checked) own started (by kernel_rfl) Try.func9
    (ChangeSpec.witness6 (enc := enc) (C := Try.checked) false ⟨#[], #[.int .i64 0, .slice none 0 0, .slice none 0 0, .slice none 0 0], []⟩ 8 (by kernel_rfl) (by kernel_rfl) (by kernel_rfl) (by kernel_rfl)) ?_
  intro W base args ds gs before hval0 hW hcnd _
  have hval : ∀ (j : Nat) t v, Try.f9.params[j]? = some t → args[j]? = some v → Value.okWide Try.prog W .any base t v := hval0
  have hW' := hW
  obtain ⟨p, q, hA0, hV, rfl, hfz, hnd⟩ := hW
  have hA : DataW.TrodAll enc Try.prog W 0 (fun _ => true) true Try.f9.params.toList args.toList ds p := hA0
  rw [Try.params9] at hA hval
  obtain ⟨v0, vs0, d0, ds0, p0, q0, hargs, rfl, rfl, h0, r0⟩ := trodAll_cons hA
  obtain ⟨v1, vs1, d1, ds1, p1, q1, rfl, rfl, rfl, h1, r1⟩ := trodAll_cons r0
  obtain ⟨v2, vs2, d2, ds2, p2, q2, rfl, rfl, rfl, h2, r2⟩ := trodAll_cons r1
  obtain ⟨v3, vs3, d3, ds3, p3, q3, rfl, rfl, rfl, h3, r3⟩ := trodAll_cons r2
  obtain ⟨rfl, rfl, rfl⟩ := trodAll_nil r3
  obtain rfl : args = #[v0, v1, v2, v3] := by cases args; simp_all
  obtain ⟨rfl, rfl⟩ := trodVars_none hV
  obtain ⟨a0, rfl, rfl, rfl, w0⟩ := open_int Try.underlying3 (hval 0 3 v0 rfl rfl) h0
  obtain ⟨a1, len1, cap1, rfl⟩ := okWide_slice Try.underlying24 (hval 1 24 v1 rfl rfl)
  have k1 := h1
  have lt1 : ∀ x ∈ p1, x.block < W.heap.size := by obtain ⟨m, hm⟩ := k1; exact DataW.trod_lt m _ _ _ hm
  obtain ⟨z1, w1⟩ : ∃ zs, IsRow .i64 W a1 len1 cap1 zs := by
    obtain ⟨fuel, hf⟩ := h1
    rcases open_ints Try.underlying24 Try.underlying3 (by kernel_rfl) hf with ⟨hcs, _⟩ | ⟨x, l, c, zs, hcs, _, hl, hm, hz, _, hcell, hwz⟩
    · simp [Value.cells] at hcs
      obtain ⟨rfl, rfl, rfl⟩ := hcs
      exact ⟨[], .inl ⟨rfl, rfl, rfl, rfl⟩⟩
    · simp [Value.cells] at hcs
      obtain ⟨rfl, rfl, rfl⟩ := hcs
      exact ⟨zs, .inr ⟨_, rfl, hl, hm, by simpa using hz, hcell, hwz⟩⟩
  have k2 := h2
  have lt2 : ∀ x ∈ p2, x.block < W.heap.size := by obtain ⟨m, hm⟩ := k2; exact DataW.trod_lt m _ _ _ hm
  obtain ⟨a2, len2, cap2, z2, rfl, w2⟩ := strs_in (hval 2 37 v2 rfl rfl) h2
  have k3 := h3
  have lt3 : ∀ x ∈ p3, x.block < W.heap.size := by obtain ⟨m, hm⟩ := k3; exact DataW.trod_lt m _ _ _ hm
  obtain ⟨a3, len3, cap3, z3, rfl, w3⟩ := strs_in (hval 3 37 v3 rfl rfl) h3
  clear hA0 hval0
  refine (held_walk a0 a1 a2 a3 len1 len2 len3 cap1 cap2 cap3 z1 z2 z3 W (isRow_iRow w1) w2 w3).mono fun e W' ⟨he, bel⟩ => ?_
  subst he
  exact ⟨_, rfl, _, _, _, [], _, [], hW', trodAll_mk1 (shut_bool Try.underlying4 _), (trodAll_cons_mk (shut_int Try.underlying3 w0) (trodAll_cons_mk (Below.trod laidOut (by kernel_rfl) (of_decide_eq_true (by kernel_rfl)) k1 bel lt1) (trodAll_cons_mk (Below.trod laidOut (by kernel_rfl) (of_decide_eq_true (by kernel_rfl)) k2 bel lt2) (trodAll_cons_mk (Below.trod laidOut (by kernel_rfl) (of_decide_eq_true (by kernel_rfl)) k3 bel lt3) trodAll_mk0)))), rfl, bel.frame _, fun h => by cases h⟩

theorem over : Rows.fnHeldPermissionsIsUnionOfGrantsRow.holds Try.pinned (OpenSpec.ofChange Rows.fnHeldPermissionsIsUnionOfGrantsSpec) :=
  OpenClaim.holds_of_wide 9 Try.f9 rfl rfl rfl rfl rfl rfl rfl ⟨rfl, rfl, rfl, rfl, rfl⟩ rfl rfl rfl rfl rfl (by kernel_rfl) Try.func9 (by kernel_rfl)
    (of_decide_eq_true (by kernel_rfl)) (by unfold Func.isWrapper; first | (rw [if_pos (by decide +kernel)]; kernel_rfl) | (rw [if_neg (by decide +kernel)]; exact ⟨rfl, rfl⟩))
    (fun os started H enc _ => lifted os started H enc)

/-- ████ THE STATEMENT ████ -/
theorem proved : Rows.FnHeldPermissionsIsUnionOfGrantsSaid := over
end Go.Proofs.Qxb6609411a.fnHeldPermissionsIsUnionOfGrants
