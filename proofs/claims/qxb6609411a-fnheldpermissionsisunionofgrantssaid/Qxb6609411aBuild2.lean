import Derived.Test.Qxb6609411aBuild
import Derived.Deep.RegionHeld3
import Derived.Deep.DeepCutAuto
namespace Go.Proofs.Qxb6609411a
open Go.RowKit Go.Maps Go.WideMaps Go.WideElems

/-- A slice of ints that are indices. -/
def IntsN (w : World) (a : Option Addr) (xs : List Nat) : Prop :=
  xs = [] ∨ ∃ b o, a = some ⟨b, o, none⟩ ∧ b < w.heap.size ∧ ∀ (i : Nat) x, xs[i]? = some x → w.cell? ⟨b, o + i, none⟩ = some (.int .i64 (x : Int))

theorem IntsN.below {w w' : World} {a : Option Addr} {xs : List Nat} {B : Nat} (h : IntsN w a xs) (hb : Below B w w') (hB : B = w.heap.size) : IntsN w' a xs := by
  subst hB
  rcases h with h | ⟨b, o, ha, hlt, hc⟩
  · exact .inl h
  · exact .inr ⟨b, o, ha, Nat.lt_of_lt_of_le hlt hb.size, fun i x hx => by rw [hb.cell (p := ⟨b, o + i, none⟩) hlt]; exact hc i x hx⟩

theorem BP.setJ {W W' : World} {base pb rb N h l : Nat} {β : Nat → Nat} {Ju Se : Nat → List Nat} (hP : BP W base pb rb N β Ju Se) (hh : h < N) (hg : W.grownBy W' (some (β h + 2))) (hs : SetV W' (β h + 2) ((Ju h).length + 1) (addV (Ju h) l)) :
    BP W' base pb rb N β (fun v => if v = h then addV (Ju h) l else Ju v) Se := by
  have ne : ∀ v, v < N → v ≠ h → ∀ i j, i < 5 → j < 5 → β v + i ≠ β h + j := by
    intro v hv hn i j hi hj
    rcases Nat.lt_or_gt_of_ne hn with h1 | h1
    · have := hP.ord v h h1 hh; omega
    · have := hP.ord h v h1 hv; omega
  have nb : ∀ x, x ≠ β h + 2 → some x ≠ some (β h + 2) := fun x hx e => hx (by cases e; rfl)
  have hcell : ∀ b o v, b ≠ β h + 2 → W.cell? ⟨b, o, none⟩ = some v → W'.cell? ⟨b, o, none⟩ = some v := fun b o v hn hc => hg.cell hc (nb b hn)
  have hl := hP.lo3 h hh
  refine ⟨hcell _ _ _ (by omega) hP.cr, hP.roles.kept (hg.block _ hP.roles.lt (nb _ (by omega))), fun v hv => ?_, fun v hv => ?_, fun v hv => ?_, fun v hv => ?_, hP.lo1, hP.lo2, hP.ne, hP.lo3, hP.ord, fun v hv => Nat.le_trans (hP.hi v hv) hg.size⟩
  · refine hcell _ _ _ ?_ (hP.fj v hv)
    by_cases e : v = h
    · subst e; omega
    · exact ne v hv e 4 2 (by omega) (by omega)
  · refine hcell _ _ _ ?_ (hP.fs v hv)
    by_cases e : v = h
    · subst e; omega
    · exact ne v hv e 4 2 (by omega) (by omega)
  · by_cases e : v = h
    · subst e; simp only [if_true]; exact hs.tight
    · simp only [if_neg e]
      exact (hP.ju v hv).kept (hg.block _ (hP.ju v hv).lt (nb _ (ne v hv e 2 2 (by omega) (by omega))))
  · refine (hP.se v hv).kept (hg.block _ (hP.se v hv).lt (nb _ ?_))
    by_cases e : v = h
    · subst e; omega
    · exact ne v hv e 3 2 (by omega) (by omega)

theorem BP.setS {W W' : World} {base pb rb N h l : Nat} {β : Nat → Nat} {Ju Se : Nat → List Nat} (hP : BP W base pb rb N β Ju Se) (hh : h < N) (hg : W.grownBy W' (some (β h + 3))) (hs : SetV W' (β h + 3) ((Se h).length + 1) (addV (Se h) l)) :
    BP W' base pb rb N β Ju (fun v => if v = h then addV (Se h) l else Se v) := by
  have ne : ∀ v, v < N → v ≠ h → ∀ i j, i < 5 → j < 5 → β v + i ≠ β h + j := by
    intro v hv hn i j hi hj
    rcases Nat.lt_or_gt_of_ne hn with h1 | h1
    · have := hP.ord v h h1 hh; omega
    · have := hP.ord h v h1 hv; omega
  have nb : ∀ x, x ≠ β h + 3 → some x ≠ some (β h + 3) := fun x hx e => hx (by cases e; rfl)
  have hcell : ∀ b o v, b ≠ β h + 3 → W.cell? ⟨b, o, none⟩ = some v → W'.cell? ⟨b, o, none⟩ = some v := fun b o v hn hc => hg.cell hc (nb b hn)
  have hl := hP.lo3 h hh
  refine ⟨hcell _ _ _ (by omega) hP.cr, hP.roles.kept (hg.block _ hP.roles.lt (nb _ (by omega))), fun v hv => ?_, fun v hv => ?_, fun v hv => ?_, fun v hv => ?_, hP.lo1, hP.lo2, hP.ne, hP.lo3, hP.ord, fun v hv => Nat.le_trans (hP.hi v hv) hg.size⟩
  · refine hcell _ _ _ ?_ (hP.fj v hv)
    by_cases e : v = h
    · subst e; omega
    · exact ne v hv e 4 3 (by omega) (by omega)
  · refine hcell _ _ _ ?_ (hP.fs v hv)
    by_cases e : v = h
    · subst e; omega
    · exact ne v hv e 4 3 (by omega) (by omega)
  · refine (hP.ju v hv).kept (hg.block _ (hP.ju v hv).lt (nb _ ?_))
    by_cases e : v = h
    · subst e; omega
    · exact ne v hv e 2 3 (by omega) (by omega)
  · by_cases e : v = h
    · subst e; simp only [if_true]; exact hs.tight
    · simp only [if_neg e]
      exact (hP.se v hv).kept (hg.block _ (hP.se v hv).lt (nb _ (ne v hv e 3 3 (by omega) (by omega))))

/-- roleName, beside two cells that the statement reads. -/
theorem role_s (wr : World) (a1 a2 : Addr) (x1 x2 : Value) (ha1 : a1.block < wr.heap.size) (ha2 : a2.block < wr.heap.size) (h1 : wr.cell? a1 = some x1) (h2 : wr.cell? a2 = some x2) (v : Nat) (w : World) (hv : v < 4096) (hb : Below wr.heap.size wr w) :
    Calls Try.prog 16 #[.int .i64 (v : Int)] w fun e w' => e = .returned (.string (nm v)) ∧ w'.cell? a1 = some x1 ∧ w'.cell? a2 = some x2 ∧ Below wr.heap.size wr w' := by
  refine (role_any v hv w).mono ?_
  rintro e w' ⟨rfl, hb'⟩
  have hB : Below wr.heap.size wr w' := hb.trans (hb'.mono hb.size)
  exact ⟨rfl, (hB.cell ha1).trans h1, (hB.cell ha2).trans h2, hB⟩

theorem zzrole_any (pb rb nr N v : Nat) (q : Nat → Nat) (w : World) (hc : w.cell? ⟨pb, 1, none⟩ = some (.map (some rb))) (hR : RolesV w rb nr N q) (hv : v < N) :
    Calls Try.prog 39 #[.pointer (some ⟨pb, 0, none⟩), .string (nm v)] w fun e w' => e = .returned (.pointer (some ⟨q v, 0, none⟩)) ∧ w = w' := by
  have hl := hR.look hv
  go_enter Try.func39, Try.ntmps39
  go_wp2
  go_ret
  exact ⟨rfl, rfl⟩

theorem addJunior_any (r mb n u : Nat) (L : List Nat) (w : World) (hu : u < 4096) (hc : w.cell? ⟨r, 2, none⟩ = some (.map (some mb))) (hS : SetV w mb n L) (hn : n < 100000) :
    Calls Try.prog 38 #[.pointer (some ⟨r, 0, none⟩), .string (nm u)] w fun e w' => (∃ v, e = .returned v) ∧ SetV w' mb (n + 1) (addV L u) ∧ w.grownBy w' (some mb) := by
  obtain ⟨D, hown, hsz, hnd, hlt, hhas, hkl⟩ := hS
  have HH := hide hhas
  have HK := hide hkl
  clear hhas hkl
  go_enter Try.func38, Try.ntmps38
  go_wp2_with (first | (at_mapUpdate; refine wpList_mapUpdate_own _ rfl _ _ _ 29 rfl 9 32 law9 Try.underlying29 _ mb n _ rfl hown (by unfold maxLen; omega) _ _ _ rfl rfl (key_nm u) _ [] unitElem_mk ?_; intro w1 hown1 hgrow1) | go_in)
  go_end0
  exact ⟨⟨_, rfl⟩, setV_put hu hown hsz hnd hlt HH.out HK.out _ hown1, hgrow1⟩

theorem addSenior_any (r mb n u : Nat) (L : List Nat) (w : World) (hu : u < 4096) (hc : w.cell? ⟨r, 3, none⟩ = some (.map (some mb))) (hS : SetV w mb n L) (hn : n < 100000) :
    Calls Try.prog 40 #[.pointer (some ⟨r, 0, none⟩), .string (nm u)] w fun e w' => (∃ v, e = .returned v) ∧ SetV w' mb (n + 1) (addV L u) ∧ w.grownBy w' (some mb) := by
  obtain ⟨D, hown, hsz, hnd, hlt, hhas, hkl⟩ := hS
  have HH := hide hhas
  have HK := hide hkl
  clear hhas hkl
  go_enter Try.func40, Try.ntmps40
  go_wp2_with (first | (at_mapUpdate; refine wpList_mapUpdate_own _ rfl _ _ _ 29 rfl 9 32 law9 Try.underlying29 _ mb n _ rfl hown (by unfold maxLen; omega) _ _ _ rfl rfl (key_nm u) _ [] unitElem_mk ?_; intro w1 hown1 hgrow1) | go_in)
  go_end0
  exact ⟨⟨_, rfl⟩, setV_put hu hown hsz hnd hlt HH.out HK.out _ hown1, hgrow1⟩
end Go.Proofs.Qxb6609411a
