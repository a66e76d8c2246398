import Derived.Test.Qxb6612389aFmtPlain
namespace Go.Proofs.Qxb6612389aFmt

theorem pick_inv {svc : List (ByteArray × ByteArray)} {p : ByteArray × ByteArray} : ∀ {ss : List ByteArray}, pick svc ss = some p → (∃ (i : Nat) (x : ByteArray), ss[i]? = some x ∧ (x.toList == p.1.toList) = true) ∧ ∃ j : Nat, svc[j]? = some p := by
  intro ss
  induction ss with
  | nil => intro h; cases h
  | cons a r ih =>
    intro h
    rw [pick] at h
    cases hs : serveAt svc a with
    | none =>
      rw [hs] at h
      obtain ⟨⟨i, x, hx, hm⟩, hj⟩ := ih h
      exact ⟨⟨i + 1, x, by simpa using hx, hm⟩, hj⟩
    | some q =>
      rw [hs] at h
      cases h
      refine ⟨⟨0, a, rfl, ?_⟩, ?_⟩
      · rw [beq_sym]
        have := List.find?_some hs
        simpa using this
      · obtain ⟨j, hj, e⟩ := List.getElem_of_mem (List.mem_of_find?_eq_some hs)
        exact ⟨j, by rw [← e]; simp [hj]⟩

theorem pick_ne {svc : List (ByteArray × ByteArray)} {p : ByteArray × ByteArray} {x : ByteArray} {i j : Nat} : ∀ {ss : List ByteArray}, ss[i]? = some x → svc[j]? = some p → (x.toList == p.1.toList) = true → pick svc ss ≠ none := by
  intro ss hx hp hm hn
  have hs : serveAt svc x ≠ none := by
    intro h
    unfold serveAt at h
    rw [List.find?_eq_none] at h
    exact h p (List.mem_of_getElem? hp) (by rw [beq_sym]; exact hm)
  induction ss generalizing i with
  | nil => simp at hx
  | cons a r ih =>
    rw [pick] at hn
    cases i with
    | zero =>
      simp at hx
      subst hx
      cases h : serveAt svc a with
      | none => exact hs h
      | some q => rw [h] at hn; cases hn
    | succ i =>
      cases h : serveAt svc a with
      | none => rw [h] at hn; exact ih (i := i) (by simpa using hx) hn
      | some q => rw [h] at hn; cases hn

/-- What the law's first loops know of 'served' behind k bindings. -/
def Srv (svc : List (ByteArray × ByteArray)) (ss : List ByteArray) (k : Nat) (sv : Bool) : Prop :=
  (sv = false ∧ ∀ i x, i < k → ss[i]? = some x → serveAt svc x = none) ∨ (sv = true ∧ pick svc ss ≠ none)

theorem srv_start (svc : List (ByteArray × ByteArray)) (ss : List ByteArray) : Srv svc ss 0 false := .inl ⟨rfl, fun _ _ h => absurd h (Nat.not_lt_zero _)⟩
theorem srv_next {svc : List (ByteArray × ByteArray)} {ss : List ByteArray} {k : Nat} {x : ByteArray} (h : Srv svc ss k false) (hx : ss[k]? = some x) (hn : serveAt svc x = none) : Srv svc ss (k + 1) false := by
  rcases h with ⟨_, h⟩ | ⟨h, _⟩
  · refine .inl ⟨rfl, fun i y hi hy => ?_⟩
    by_cases e : i = k
    · subst e; rw [hx] at hy; cases hy; exact hn
    · exact h i y (by omega) hy
  · cases h
theorem srv_end {svc : List (ByteArray × ByteArray)} {ss : List ByteArray} (h : Srv svc ss ss.length false) : pick svc ss = none := by
  rcases h with ⟨_, h⟩ | ⟨h, _⟩
  · exact pick_none_of fun i x hx => h i x (List.getElem?_eq_some_iff.1 hx).1 hx
  · cases h
theorem srv_true {svc : List (ByteArray × ByteArray)} {ss : List ByteArray} {k : Nat} (h : Srv svc ss k true) : ∃ p, pick svc ss = some p := by
  rcases h with ⟨h, _⟩ | ⟨_, h⟩
  · cases h
  · cases hp : pick svc ss with
    | none => exact absurd hp h
    | some p => exact ⟨p, rfl⟩
end Go.Proofs.Qxb6612389aFmt
