import Derived.Test.Qxb6612389aFmtZsign
namespace Go.Proofs.Qxb6612389aFmt

/-- 's' stands first at place m in 'ss'. -/
def IsRank (ss : List ByteArray) (s : ByteArray) (m : Nat) : Prop :=
  (∃ x, ss[m]? = some x ∧ (x.toList == s.toList) = true) ∧ ∀ i x, i < m → ss[i]? = some x → (x.toList == s.toList) = false
def NoRank (ss : List ByteArray) (s : ByteArray) : Prop := ∀ (i : Nat) x, ss[i]? = some x → (x.toList == s.toList) = false

theorem isRank_uniq {ss : List ByteArray} {s : ByteArray} {m m' : Nat} (h : IsRank ss s m) (h' : IsRank ss s m') : m = m' := by
  obtain ⟨⟨x, hx, hm⟩, hl⟩ := h
  obtain ⟨⟨x', hx', hm'⟩, hl'⟩ := h'
  rcases Nat.lt_trichotomy m m' with h | h | h
  · rw [hl' m x h hx] at hm; cases hm
  · exact h
  · rw [hl m' x' h hx'] at hm'; cases hm'

def Best (ss sb : List ByteArray) (k : Nat) (J R : Int) : Prop :=
  (J = -1 ∧ R = 0 ∧ ∀ j s, j < k → sb[j]? = some s → NoRank ss s) ∨
  ∃ Jn Rn : Nat, J = Jn ∧ R = Rn ∧ Jn < k ∧ (∃ s, sb[Jn]? = some s ∧ IsRank ss s Rn) ∧ (∀ j s r, j < k → sb[j]? = some s → IsRank ss s r → Rn ≤ r) ∧ (∀ j s r, j < Jn → sb[j]? = some s → IsRank ss s r → Rn < r)

theorem best_start (ss sb : List ByteArray) : Best ss sb 0 (-1) 0 := .inl ⟨rfl, rfl, fun _ _ h => absurd h (Nat.not_lt_zero _)⟩

theorem no_is {ss : List ByteArray} {s : ByteArray} {m : Nat} (h : NoRank ss s) (h' : IsRank ss s m) : False := by
  obtain ⟨⟨x, hx, hm⟩, _⟩ := h'
  rw [h m x hx] at hm; cases hm

theorem best_none {ss sb : List ByteArray} {k : Nat} {J R : Int} {s : ByteArray} (hs : sb[k]? = some s) (hn : NoRank ss s) (h : Best ss sb k J R) : Best ss sb (k + 1) J R := by
  rcases h with ⟨h1, h2, h3⟩ | ⟨Jn, Rn, h1, h2, h3, h4, h5, h6⟩
  · refine .inl ⟨h1, h2, fun j t hj ht => ?_⟩
    by_cases e : j = k
    · subst e; rw [hs] at ht; cases ht; exact hn
    · exact h3 j t (by omega) ht
  · refine .inr ⟨Jn, Rn, h1, h2, by omega, h4, fun j t r hj ht hr => ?_, h6⟩
    by_cases e : j = k
    · subst e; rw [hs] at ht; cases ht; exact (no_is hn hr).elim
    · exact h5 j t r (by omega) ht hr

theorem best_take {ss sb : List ByteArray} {k m : Nat} {J R : Int} {s : ByteArray} (hs : sb[k]? = some s) (hm : IsRank ss s m) (h : Best ss sb k J R) (ht : J < 0 ∨ (m : Int) < R) : Best ss sb (k + 1) k m := by
  rcases h with ⟨h1, h2, h3⟩ | ⟨Jn, Rn, h1, h2, h3, h4, h5, h6⟩
  · refine .inr ⟨k, m, rfl, rfl, by omega, ⟨s, hs, hm⟩, fun j t r hj ht hr => ?_, fun j t r hj ht hr => ?_⟩
    · by_cases e : j = k
      · subst e; rw [hs] at ht; cases ht; rw [isRank_uniq hr hm]; exact Nat.le_refl _
      · exact (no_is (h3 j t (by omega) ht) hr).elim
    · exact (no_is (h3 j t hj ht) hr).elim
  · have hlt : m < Rn := by omega
    refine .inr ⟨k, m, rfl, rfl, by omega, ⟨s, hs, hm⟩, fun j t r hj ht hr => ?_, fun j t r hj ht hr => ?_⟩
    · by_cases e : j = k
      · subst e; rw [hs] at ht; cases ht; rw [isRank_uniq hr hm]; exact Nat.le_refl _
      · have := h5 j t r (by omega) ht hr; omega
    · have := h5 j t r hj ht hr; omega

theorem best_skip {ss sb : List ByteArray} {k m : Nat} {J R : Int} {s : ByteArray} (hs : sb[k]? = some s) (hm : IsRank ss s m) (h : Best ss sb k J R) (hJ : 0 ≤ J) (hR : R ≤ (m : Int)) : Best ss sb (k + 1) J R := by
  rcases h with ⟨h1, _, _⟩ | ⟨Jn, Rn, h1, h2, h3, h4, h5, h6⟩
  · omega
  · refine .inr ⟨Jn, Rn, h1, h2, by omega, h4, fun j t r hj ht hr => ?_, h6⟩
    by_cases e : j = k
    · subst e; rw [hs] at ht; cases ht; rw [isRank_uniq hr hm]; omega
    · exact h5 j t r (by omega) ht hr

theorem best_bd {ss sb : List ByteArray} {k : Nat} {J R : Int} (h : Best ss sb k J R) : -1 ≤ J ∧ J < (k : Int) + 0 ∧ 0 ≤ R ∧ (R : Int) ≤ ss.length := by
  rcases h with ⟨h1, h2, h3⟩ | ⟨Jn, Rn, h1, h2, h3, ⟨s, hs, ⟨⟨x, hx, _⟩, _⟩⟩, h5, h6⟩
  · subst h1 h2; omega
  · have := (List.getElem?_eq_some_iff.1 hx).1
    omega

theorem beq_sym (a b : ByteArray) : (a.toList == b.toList) = (b.toList == a.toList) := by
  rw [Bool.eq_iff_iff, beq_iff_eq, beq_iff_eq]; exact eq_comm

theorem serve_none_of {svc : List (ByteArray × ByteArray)} {x : ByteArray} (h : ∀ (j : Nat) p, svc[j]? = some p → (p.1.toList == x.toList) = false) : serveAt svc x = none := by
  unfold serveAt
  rw [List.find?_eq_none]
  intro p hp
  obtain ⟨j, hj, rfl⟩ := List.getElem_of_mem hp
  rw [h j _ (by simp [hj])]
  decide

theorem serve_some_of {x : ByteArray} : ∀ {svc : List (ByteArray × ByteArray)} {J : Nat} {p : ByteArray × ByteArray}, svc[J]? = some p → (p.1.toList == x.toList) = true → (∀ j q, j < J → svc[j]? = some q → (q.1.toList == x.toList) = false) → serveAt svc x = some p := by
  intro svc
  induction svc with
  | nil => intro J p h; simp at h
  | cons a r ih =>
    intro J p h hm hl
    cases J with
    | zero =>
      simp at h
      subst h
      unfold serveAt
      rw [List.find?_cons, hm]
    | succ J =>
      have h0 := hl 0 a (by omega) rfl
      unfold serveAt
      rw [List.find?_cons, h0]
      exact ih (J := J) (by simpa using h) hm (fun j q hj hq => hl (j + 1) q (by omega) (by simpa using hq))

theorem pick_none_of {svc : List (ByteArray × ByteArray)} : ∀ {ss : List ByteArray}, (∀ (i : Nat) x, ss[i]? = some x → serveAt svc x = none) → pick svc ss = none := by
  intro ss
  induction ss with
  | nil => intro _; rfl
  | cons a r ih =>
    intro h
    rw [pick, h 0 a rfl]
    exact ih (fun i x hx => h (i + 1) x (by simpa using hx))

theorem pick_some_of {svc : List (ByteArray × ByteArray)} {p : ByteArray × ByteArray} {x : ByteArray} : ∀ {ss : List ByteArray} {R : Nat}, ss[R]? = some x → serveAt svc x = some p → (∀ i y, i < R → ss[i]? = some y → serveAt svc y = none) → pick svc ss = some p := by
  intro ss
  induction ss with
  | nil => intro R h; simp at h
  | cons a r ih =>
    intro R h hp hl
    cases R with
    | zero => simp at h; subst h; rw [pick, hp]
    | succ R =>
      rw [pick, hl 0 a (by omega) rfl]
      exact ih (R := R) (by simpa using h) hp (fun i y hi hy => hl (i + 1) y (by omega) (by simpa using hy))

theorem zip_some {sb sl : List ByteArray} {j : Nat} {p : ByteArray × ByteArray} (h : (sb.zip sl)[j]? = some p) : sb[j]? = some p.1 ∧ sl[j]? = some p.2 := List.getElem?_zip_eq_some.1 h

/-- A service that matches the binding at place i has a rank, at most i. -/
theorem rank_le {ss : List ByteArray} {s x : ByteArray} : ∀ {i : Nat}, ss[i]? = some x → (x.toList == s.toList) = true → ∃ r, r ≤ i ∧ IsRank ss s r := by
  intro i
  induction i using Nat.strongRecOn generalizing x with
  | ind i ih =>
    intro hx hm
    by_cases h : ∃ j y, j < i ∧ ss[j]? = some y ∧ (y.toList == s.toList) = true
    · obtain ⟨j, y, hj, hy, hym⟩ := h
      obtain ⟨r, hr, hR⟩ := ih j hj hy hym
      exact ⟨r, by omega, hR⟩
    · refine ⟨i, Nat.le_refl _, ⟨x, hx, hm⟩, fun j y hj hy => ?_⟩
      cases hb : (y.toList == s.toList) with
      | false => rfl
      | true => exact absurd ⟨j, y, hj, hy, hb⟩ h

theorem best_pick_none {ss sb sl : List ByteArray} {R : Int} (h : Best ss sb sb.length (-1) R) : pick (sb.zip sl) ss = none := by
  rcases h with ⟨_, _, h3⟩ | ⟨Jn, Rn, h1, _⟩
  · refine pick_none_of fun i x hx => serve_none_of fun j p hp => ?_
    obtain ⟨h1, _⟩ := zip_some hp
    rw [beq_sym]
    exact h3 j p.1 (List.getElem?_eq_some_iff.1 h1).1 h1 i x hx
  · omega

theorem best_pick {ss sb sl : List ByteArray} {J R : Int} (hl : sl.length = sb.length) (hJ : 0 ≤ J) (h : Best ss sb sb.length J R) : ∃ (Jn : Nat) (s l : ByteArray), J = Jn ∧ sb[Jn]? = some s ∧ sl[Jn]? = some l ∧ pick (sb.zip sl) ss = some (s, l) := by
  rcases h with ⟨h1, _, _⟩ | ⟨Jn, Rn, h1, h2, h3, ⟨s, hs, hR⟩, h5, h6⟩
  · omega
  · have hsl : sl[Jn]? = some (sl[Jn]'(by omega)) := List.getElem?_eq_getElem _
    refine ⟨Jn, s, _, h1, hs, hsl, ?_⟩
    have hR' := hR
    obtain ⟨⟨x, hx, hm⟩, hlt⟩ := hR
    refine pick_some_of hx (serve_some_of (zip_get hs hsl) (by rw [beq_sym]; exact hm) ?_) ?_
    · intro j q hj hq
      obtain ⟨hq1, _⟩ := zip_some hq
      cases hb : (q.1.toList == x.toList) with
      | false => rfl
      | true =>
        obtain ⟨r, hr, hrr⟩ := rank_le (s := q.1) hx (by rw [beq_sym]; exact hb)
        have := h6 j q.1 r hj hq1 hrr
        omega
    · intro i y hi hy
      refine serve_none_of fun j q hq => ?_
      obtain ⟨hq1, _⟩ := zip_some hq
      cases hb : (q.1.toList == y.toList) with
      | false => rfl
      | true =>
        obtain ⟨r, hr, hrr⟩ := rank_le (s := q.1) hy (by rw [beq_sym]; exact hb)
        have := h5 j q.1 r (List.getElem?_eq_some_iff.1 hq1).1 hq1 hrr
        omega
end Go.Proofs.Qxb6612389aFmt
