import Derived.Test.Qxb6609411aNames
import Derived.Test.Qxb6609411aSeq
import Derived.Maps.OwnIn
import Derived.Maps.OwnSet
import Derived.Maps.RangeWalk
import Derived.Sort.MapsRangeIn
namespace Go.Proofs.Qxb6609411a
open Go.RowKit Go.Maps Go.WideMaps Go.WideElems

theorem law9 : Keyed Try.prog 9 := string_keyed Try.underlying9
/-- The key that role v's name reads as. -/
def kN (v : Nat) : Lit := .string (nm v).data.toList
theorem key_nm (v : Nat) : keyOf Try.prog 9 (.string (nm v)) = some (kN v) := keyOf_string_mk Try.underlying9 (by have := nm_size v; unfold maxLen; omega)
theorem kN_inj {u v : Nat} (hu : u < 4096) (hv : v < 4096) (h : kN u = kN v) : u = v := by
  refine nm_inj hu hv (ByteArray.ext ?_)
  unfold kN at h
  injection h with h
  exact Array.toList_inj.1 h
theorem kN_lit (v : Nat) : WideAt.IsKeyLit (kN v) := trivial

/-- Block b is a map, a set of role names: just those of the roles on L. -/
def SetV (w : World) (b n : Nat) (L : List Nat) : Prop :=
  ∃ D : DataW Unit, w.ownsMap Try.prog 9 (unitElem (H := Unit)) b n D ∧ Maps.size D = L.length ∧ L.Nodup ∧ (∀ v ∈ L, v < 4096) ∧
    (∀ v, v < 4096 → Maps.has D (kN v) = decide (v ∈ L)) ∧ (∀ kl, Maps.has D kl = true → ∃ v ∈ L, kl = kN v)

theorem SetV.kept {w w' : World} {b n : Nat} {L : List Nat} (h : SetV w b n L) (hb : w'.heap[b]? = w.heap[b]?) : SetV w' b n L := by
  obtain ⟨D, ⟨es, clock, h1, h2⟩, h3⟩ := h
  exact ⟨D, ⟨es, clock, hb.trans h1, h2⟩, h3⟩

theorem SetV.lt {w : World} {b n : Nat} {L : List Nat} (h : SetV w b n L) : b < w.heap.size := by
  obtain ⟨D, h1, _⟩ := h
  exact h1.lt

theorem setV_made (w : World) : SetV (w.alloc (.map #[] 0)) w.heap.size 0 [] :=
  ⟨.map [], World.ownsMap_made w Try.prog 9 _, rfl, List.nodup_nil, by simp, fun v _ => by simp [Maps.has], fun kl h => by simp [Maps.has] at h⟩

/-- A role added to a set. -/
def addV (L : List Nat) (v : Nat) : List Nat := if v ∈ L then L else L ++ [v]

theorem mem_addV {L : List Nat} {v u : Nat} : u ∈ addV L v ↔ u ∈ L ∨ u = v := by
  unfold addV
  split
  · constructor
    · exact .inl
    · rintro (h | rfl)
      · exact h
      · assumption
  · simp

theorem addV_nodup {L : List Nat} {v : Nat} (h : L.Nodup) : (addV L v).Nodup := by
  unfold addV
  split
  · exact h
  · rename_i hv
    rw [List.nodup_append]
    refine ⟨h, by simp, ?_⟩
    intro a ha b hb
    simp at hb
    subst hb
    intro e
    subst e
    exact hv ha

theorem setV_put {w w' : World} {b n : Nat} {L : List Nat} {D : DataW Unit} {v : Nat} (hv : v < 4096)
    (h1 : w.ownsMap Try.prog 9 (unitElem (H := Unit)) b n D) (h2 : Maps.size D = L.length) (h3 : L.Nodup) (h4 : ∀ v ∈ L, v < 4096)
    (h5 : ∀ v, v < 4096 → Maps.has D (kN v) = decide (v ∈ L)) (h6 : ∀ kl, Maps.has D kl = true → ∃ v ∈ L, kl = kN v)
    (d : DataW Unit) (hown : w'.ownsMap Try.prog 9 (unitElem (H := Unit)) b (n + 1) (D.put (kN v) d)) : SetV w' b (n + 1) (addV L v) := by
  refine ⟨_, hown, ?_, addV_nodup h3, ?_, ?_, ?_⟩
  · rw [Maps.size_put (h1.tidy law9), h5 v hv, h2]
    unfold addV
    by_cases hm : v ∈ L <;> simp [hm]
  · intro u hu
    rcases mem_addV.1 hu with h | rfl
    · exact h4 u h
    · exact hv
  · intro u hu
    by_cases e : u = v
    · subst e
      rw [Maps.has_put_same h1.isMap (kN_lit _)]
      simp [mem_addV]
    · rw [Maps.has_put_other (fun h => e (kN_inj hu hv h)), h5 u hu]
      have : u ∈ addV L v ↔ u ∈ L := by rw [mem_addV]; simp [e]
      simp [this]
  · intro kl hk
    by_cases e : kl = kN v
    · exact ⟨v, mem_addV.2 (.inr rfl), e⟩
    · rw [Maps.has_put_other e] at hk
      obtain ⟨u, hu, rfl⟩ := h6 kl hk
      exact ⟨u, mem_addV.2 (.inl hu), rfl⟩
end Go.Proofs.Qxb6609411a
