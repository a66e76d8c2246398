import Derived.Test.Qxb6609411aSets
import Derived.DeepKeys4
namespace Go.Proofs.Qxb6609411a
open Go.RowKit Go.Maps Go.WideMaps Go.WideElems

theorem laidOut45 : laidOutB Try.prog = true := by kernel_rfl
theorem row45 : (45 : TypeId) < Try.prog.types.size := of_decide_eq_true (by kernel_rfl)
theorem wide45 : (match Try.prog.underlying 45 with | some (.array _ _) | some (.struct _) => true | _ => false) = true := by kernel_rfl
theorem law45 : Keyed Try.prog 45 := Keyed.of_law (deep_law_laid laidOut45 (m := 2) (by omega) row45 (by kernel_rfl) wide45)

instance decBA : DecidableEq ByteArray := fun a b => decidable_of_iff (a.data = b.data) ⟨fun h => ByteArray.ext h, fun h => by rw [h]⟩
structure PP where
  a : ByteArray
  b : ByteArray
  deriving DecidableEq
/-- A permission, as a value. -/
def pV (p : PP) : Value := .agg #[.string p.1, .string p.2]
def OkP (p : PP) : Prop := p.1.size ≤ maxLen ∧ p.2.size ≤ maxLen
def kP (p : PP) : Lit := .string (keyBytes [.string p.1.data.toList, .string p.2.data.toList])

theorem cells45 : Try.prog.cellsOf 45 = 2 := by kernel_rfl
theorem keyType45 : Try.prog.keyType 45 = true := by kernel_rfl
theorem size_types : ∃ n, Try.prog.types.size + 1 = n + 2 := ⟨Try.prog.types.size - 1, by have h : (45 : Nat) < Try.prog.types.size := row45; omega⟩
theorem cells9 : Try.prog.cellsOf 9 = 1 := by kernel_rfl
theorem lits9 (d : Nat) (s : ByteArray) (h : s.size ≤ maxLen) : Try.prog.keyLits (d + 1) 9 [.string s] = some [.string s.data.toList] := by
  unfold Program.keyLits
  rw [Try.underlying9]
  simp only [if_pos h]
theorem lits9_inv {d : Nat} {v : Value} {ls : List Lit} (h : Try.prog.keyLits (d + 1) 9 [v] = some ls) : ∃ s, v = .string s ∧ s.size ≤ maxLen := by
  unfold Program.keyLits at h
  rw [Try.underlying9] at h
  cases v <;> simp at h
  exact ⟨_, rfl, h.1⟩

theorem lits45 (n : Nat) (a b : Value) : Try.prog.keyLits (n + 2) 45 [a, b] = (Try.prog.keyLits (n + 1) 9 [a]).bind fun la => (Try.prog.keyLits (n + 1) 9 [b]).bind fun lb => some (la ++ lb) := by
  rw [Program.keyLits.eq_def Try.prog (n + 2)]
  simp only [Try.underlying45, cells45, List.length_cons, List.length_nil]
  cases ha : Try.prog.keyLits (n + 1) 9 [a] <;> cases hb : Try.prog.keyLits (n + 1) 9 [b] <;> simp [cells9, ha, hb]

theorem key_pV {p : PP} (h : OkP p) : keyOf Try.prog 45 (pV p) = some (kP p) := by
  obtain ⟨n, hn⟩ := size_types
  unfold keyOf
  rw [Try.underlying45]
  have hf : (pV p).formed Try.prog 45 = true := by
    unfold pV Value.formed
    simp only [Try.underlying45, cells45]
    rfl
  simp only [keyType45, hf, Bool.and_self, if_true]
  have hl : Try.prog.keyLits (Try.prog.types.size + 1) 45 (pV p).cells.toList = some [.string p.1.data.toList, .string p.2.data.toList] := by
    have hc : (pV p).cells.toList = [.string p.1, .string p.2] := rfl
    rw [hn, hc, lits45, lits9 n p.1 h.1, lits9 n p.2 h.2]
    rfl
  rw [hl]
  rfl

theorem pV_of_key {v : Value} {l : Lit} (h : keyOf Try.prog 45 v = some l) : ∃ p, v = pV p ∧ OkP p := by
  obtain ⟨n, hn⟩ := size_types
  unfold keyOf at h
  rw [Try.underlying45] at h
  simp only [keyType45, Bool.true_and] at h
  split at h
  · rename_i hf
    cases v with
    | agg cs =>
      unfold Value.formed at hf
      simp only [Try.underlying45, cells45] at hf
      have hs : cs.size = 2 := by simpa using hf
      obtain ⟨ls, hls, _⟩ := Option.map_eq_some_iff.1 h
      have hcs : ∃ a b, cs = #[a, b] := by
        obtain ⟨l⟩ := cs
        match l, hs with
        | [a, b], _ => exact ⟨a, b, rfl⟩
      obtain ⟨a, b, rfl⟩ := hcs
      have hc : (Value.agg #[a, b]).cells.toList = [a, b] := rfl
      rw [hn, hc, lits45] at hls
      obtain ⟨la, ha, hls⟩ := Option.bind_eq_some_iff.1 hls
      obtain ⟨lb, hb, _⟩ := Option.bind_eq_some_iff.1 hls
      obtain ⟨s, rfl, h1⟩ := lits9_inv ha
      obtain ⟨t, rfl, h2⟩ := lits9_inv hb
      exact ⟨⟨s, t⟩, rfl, h1, h2⟩
    | _ => simp [Value.formed, Try.underlying45] at hf
  · cases h

theorem pV_inj {p q : PP} (h : pV p = pV q) : p = q := by
  unfold pV at h
  injection h with h
  simp at h
  cases p; cases q; simp only at h; rw [h.1, h.2]
theorem kP_inj {p q : PP} (hp : OkP p) (hq : OkP q) (h : kP p = kP q) : p = q := pV_inj (law45.inj (key_pV hp) (by rw [h]; exact key_pV hq))
theorem kP_lit (p : PP) : WideAt.IsKeyLit (kP p) := trivial

/-- Block b is a map, a set of permissions: just those on L. -/
def SetP (w : World) (b n : Nat) (L : List PP) : Prop :=
  ∃ D : DataW Unit, w.ownsMap Try.prog 45 (unitElem (H := Unit)) b n D ∧ Maps.size D = L.length ∧ L.Nodup ∧ (∀ v ∈ L, OkP v) ∧
    (∀ v, OkP v → Maps.has D (kP v) = decide (v ∈ L)) ∧ (∀ kl, Maps.has D kl = true → ∃ v ∈ L, kl = kP v)

theorem SetP.kept {w w' : World} {b n : Nat} {L : List PP} (h : SetP w b n L) (hb : w'.heap[b]? = w.heap[b]?) : SetP w' b n L := by
  obtain ⟨D, ⟨es, clock, h1, h2⟩, h3⟩ := h
  exact ⟨D, ⟨es, clock, hb.trans h1, h2⟩, h3⟩
theorem SetP.lt {w : World} {b n : Nat} {L : List PP} (h : SetP w b n L) : b < w.heap.size := by
  obtain ⟨D, h1, _⟩ := h
  exact h1.lt
theorem SetP.mono {w : World} {b n n' : Nat} {L : List PP} (h : SetP w b n L) (hn : n ≤ n') : SetP w b n' L := by
  obtain ⟨D, h1, h2⟩ := h
  exact ⟨D, h1.mono hn, h2⟩
theorem setP_made (w : World) : SetP (w.alloc (.map #[] 0)) w.heap.size 0 [] :=
  ⟨.map [], World.ownsMap_made w Try.prog 45 _, rfl, List.nodup_nil, by simp, fun v _ => by simp [Maps.has], fun kl h => by simp [Maps.has] at h⟩
theorem setP_new {w : World} {b : Nat} (h : w.heap[b]? = some (.map #[] 0)) : SetP w b 0 [] := by
  obtain ⟨D, ⟨es, ck, h1, h2, h3, h4⟩, hr⟩ := setP_made w
  rw [World.alloc_heap_new] at h1
  cases h1
  exact ⟨D, ⟨#[], 0, h, h2, h3, h4⟩, hr⟩

/-- A permission added to a set. -/
def addP (L : List PP) (v : PP) : List PP := if v ∈ L then L else L ++ [v]
theorem mem_addP {L : List PP} {v u : PP} : u ∈ addP L v ↔ u ∈ L ∨ u = v := by
  unfold addP
  split
  · constructor
    · exact .inl
    · rintro (h | rfl)
      · exact h
      · assumption
  · simp
theorem addP_nodup {L : List PP} {v : PP} (h : L.Nodup) : (addP L v).Nodup := by
  unfold addP
  split
  · exact h
  · rename_i hv
    rw [List.nodup_append]
    refine ⟨h, by simp, ?_⟩
    intro a ha b hb
    simp at hb
    subst hb
    intro e
    subst e
    exact hv ha

theorem setP_put {w w' : World} {b n : Nat} {L : List PP} {D : DataW Unit} {v : PP} (hv : OkP v)
    (h1 : w.ownsMap Try.prog 45 (unitElem (H := Unit)) b n D) (h2 : Maps.size D = L.length) (h3 : L.Nodup) (h4 : ∀ v ∈ L, OkP v)
    (h5 : ∀ v, OkP v → Maps.has D (kP v) = decide (v ∈ L)) (h6 : ∀ kl, Maps.has D kl = true → ∃ v ∈ L, kl = kP v)
    (d : DataW Unit) (hown : w'.ownsMap Try.prog 45 (unitElem (H := Unit)) b (n + 1) (D.put (kP v) d)) : SetP w' b (n + 1) (addP L v) := by
  refine ⟨_, hown, ?_, addP_nodup h3, ?_, ?_, ?_⟩
  · rw [Maps.size_put (h1.tidy law45), h5 v hv, h2]
    unfold addP
    by_cases hm : v ∈ L <;> simp [hm]
  · intro u hu
    rcases mem_addP.1 hu with h | rfl
    · exact h4 u h
    · exact hv
  · intro u hu
    by_cases e : u = v
    · subst e
      rw [Maps.has_put_same h1.isMap (kP_lit _)]
      simp [mem_addP]
    · rw [Maps.has_put_other (fun h => e (kP_inj hu hv h)), h5 u hu]
      have : u ∈ addP L v ↔ u ∈ L := by rw [mem_addP]; simp [e]
      simp [this]
  · intro kl hk
    by_cases e : kl = kP v
    · exact ⟨v, mem_addP.2 (.inr rfl), e⟩
    · rw [Maps.has_put_other e] at hk
      obtain ⟨u, hu, rfl⟩ := h6 kl hk
      exact ⟨u, mem_addP.2 (.inl hu), rfl⟩

theorem SetP.look {w : World} {b n : Nat} {L : List PP} (h : SetP w b n L) {v : PP} (hv : OkP v) : (Instr.lookup 48 (.map (some b)) (pV v) true).run Try.prog w = .ok (.tuple #[.agg #[], .bool (decide (v ∈ L))]) w := by
  obtain ⟨D, h1, _, _, _, h2, _⟩ := h
  obtain ⟨x, ps, hrun, hx⟩ := h1.look_ok law45 Try.underlying48 (z := .agg #[]) (by kernel_rfl) (zd := .agg []) (zp := []) unitElem_mk (key_pV hv)
  obtain ⟨rfl, _⟩ := unitElem_inv hx
  rw [hrun, h2 v hv]
end Go.Proofs.Qxb6609411a
