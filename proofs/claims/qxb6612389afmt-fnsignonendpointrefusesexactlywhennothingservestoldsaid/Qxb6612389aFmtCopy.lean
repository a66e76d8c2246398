import Derived.Test.Qxb6612389aFmtZsign
import Derived.Laws.IdiomCopy
import Derived.Deep.DeepCutAuto
namespace Go.Proofs.Qxb6612389aFmt
open Go.ChangeShapes Go.WideShapes Go.ChangeAt Go.RowKit

theorem make22 (n : Nat) (h : n ≤ 4096) (w : World) : (Instr.makeSlice 22 (.int .i64 (n : Int)) (.int .i64 (n : Int))).run Tryf.prog w = .ok (.slice (some ⟨w.heap.size, 0, none⟩) n n) (w.alloc (.cells (madeCells #[.string ⟨#[]⟩] n) 9)) :=
  run_make_row' (P := Tryf.prog) 22 9 (.string ⟨#[]⟩) 16 Tryf.underlying22 (by kernel_rfl) rfl .i64 .i64 n (by omega) (by omega) w

theorem below_setCells {B : Nat} {a : World} (b : Nat) (hb : B ≤ b) : ∀ (vs : List Value) (o : Nat) (w : World), Below B a w → Below B a (w.setCells b o vs) := by
  intro vs
  induction vs with
  | nil => intro o w h; exact h
  | cons v r ih => intro o w h; exact ih _ _ (h.setCell hb _)

/-- make and copy of a slice of strings: the copy reads as the original. -/
theorem copy_strs (a : Option Addr) (cap : Nat) (ss : List ByteArray) (w : World) (hs : Strs w a ss) :
    ∃ w', (∀ ty, (Builtin.copy_ #[22, 22] ty #[.slice (some ⟨w.heap.size, 0, none⟩) ss.length ss.length, .slice a ss.length cap]).run Tryf.prog (w.alloc (.cells (madeCells #[.string ⟨#[]⟩] ss.length) 9)) = .ok (goInt ss.length) w') ∧
      Strs w' (some ⟨w.heap.size, 0, none⟩) ss ∧ Below w.heap.size w w' := by
  rcases hs with rfl | ⟨b, o, rfl, hb, hc⟩
  · refine ⟨_, fun ty => run_copy_none _ 22 22 ty 9 _ _ 0 0 0 cap Tryf.underlying22 (by kernel_rfl) (by simp), .inl rfl, (Below.refl _ _).alloc (Nat.le_refl _) _⟩
  · have hrow := strRow_made w ss.length
    have hold : ∀ j, j < ss.length → (w.alloc (.cells (madeCells #[.string ⟨#[]⟩] ss.length) 9)).cell? ⟨w.heap.size, 0 + j, none⟩ = some (.string ⟨#[]⟩) ∧ (w.alloc (.cells (madeCells #[.string ⟨#[]⟩] ss.length) 9)).frozen? ⟨w.heap.size, 0 + j, none⟩ = false := by
      intro j hj
      rw [Nat.zero_add]
      exact hrow j ⟨#[]⟩ (by rw [List.getElem?_replicate, if_pos hj])
    refine ⟨(w.alloc (.cells (madeCells #[.string ⟨#[]⟩] ss.length) 9)).setCells w.heap.size 0 (ss.map .string), fun ty => ?_, ?_, ?_⟩
    · have := run_copy_cells (P := Tryf.prog) (w.alloc (.cells (madeCells #[.string ⟨#[]⟩] ss.length) 9)) 22 22 ty 9 w.heap.size 0 ss.length ss.length ⟨b, o, none⟩ ss.length cap (ss.map .string) Tryf.underlying22 (by kernel_rfl) (by simp) ?_ ?_ ?_ ?_
      · rw [List.length_map] at this; exact this
      · intro j v hv
        rw [List.getElem?_map] at hv
        obtain ⟨x, hx, rfl⟩ := Option.map_eq_some_iff.1 hv
        have := hc j x hx
        have ea : (⟨b, o, none⟩ : Addr).add j = ⟨b, o + j, none⟩ := by
          simp only [Addr.add]
          split
          · rename_i h0; subst h0; rfl
          · rfl
        rw [ea, World.cell?_alloc_lt _ _ _ (by simpa using hb)]
        exact this
      · intro j hj; rw [(hold j (by simpa using hj)).1]; rfl
      · intro j hj; exact (hold j (by simpa using hj)).2
      · intro v hv; obtain ⟨x, _, rfl⟩ := List.mem_map.1 hv; rfl
    · refine .inr ⟨w.heap.size, 0, rfl, ?_, ?_⟩
      · have := (below_setCells (B := w.heap.size) w.heap.size (Nat.le_refl _) (ss.map .string) 0 _ (Below.refl _ (w.alloc (.cells (madeCells #[.string ⟨#[]⟩] ss.length) 9)))).size
        simp at this
        omega
      · intro i x hx
        have hi : i < (ss.map Value.string).length := by rw [List.length_map]; exact (List.getElem?_eq_some_iff.1 hx).1
        have := World.cell?_setCells_in w.heap.size (ss.map .string) 0 (w.alloc (.cells (madeCells #[.string ⟨#[]⟩] ss.length) 9)) (fun j hj => by rw [(hold j (by simpa using hj)).1]; rfl) i hi
        rw [this]
        obtain ⟨h1, rfl⟩ := List.getElem?_eq_some_iff.1 hx
        simp
    · exact below_setCells w.heap.size (Nat.le_refl _) _ _ _ ((Below.refl _ _).alloc (Nat.le_refl _) _)

/-- From the cells of a slice as the row hands them to 'Strs'. -/
theorem strs_of {W : World} (a : Addr) (ss : List ByteArray) (len : Nat) (h : ∀ i, i < ss.length → W.cell? (a.add i) = some (.string (ss.getD i ByteArray.empty))) : Strs W (some a) (ss.take len) := by
  by_cases h0 : (ss.take len) = []
  · exact .inl h0
  · right
    have hpos : 0 < ss.length := by
      cases ss with
      | nil => simp at h0
      | cons _ _ => simp
    have hc0 := h 0 hpos
    obtain ⟨b, o, sp⟩ := a
    have e0 : (⟨b, o, sp⟩ : Addr).add 0 = ⟨b, o, sp⟩ := rfl
    rw [e0] at hc0
    have hsp : sp = none := by
      cases sp with
      | none => rfl
      | some x =>
        simp [World.cell?] at hc0
        split at hc0 <;> simp at hc0
    subst hsp
    have hlt : b < W.heap.size := by
      rcases Nat.lt_or_ge b W.heap.size with h' | h'
      · exact h'
      · simp [World.cell?, Array.getElem?_eq_none h'] at hc0
    refine ⟨b, o, rfl, hlt, fun i x hx => ?_⟩
    have hi : i < ss.length := by
      have := (List.getElem?_eq_some_iff.1 hx).1
      rw [List.length_take] at this
      omega
    have hc := h i hi
    have ea : (⟨b, o, none⟩ : Addr).add i = ⟨b, o + i, none⟩ := by
      simp only [Addr.add]
      split
      · rename_i h0; subst h0; rfl
      · rfl
    rw [ea] at hc
    rw [hc]
    obtain ⟨hi2, rfl⟩ := List.getElem?_eq_some_iff.1 hx
    simp [hi]
end Go.Proofs.Qxb6612389aFmt
