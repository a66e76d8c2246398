import Derived.Test.Qxb6609411aGuards
import Derived.Deep.RegionHeld3
namespace Go.Proofs.Qxb6609411a
open Go.RowKit Go.Maps Go.WideMaps Go.WideElems

set_option maxRecDepth 20000 in
theorem grant_any (r mb n : Nat) (p : PP) (L : List PP) (w : World) (hp : OkP p) (hc : w.cell? ⟨r, 0, none⟩ = some (.map (some mb))) (hS : SetP w mb n L) (hn : n < 100000) :
    Calls Try.prog 41 #[.pointer (some ⟨r, 0, none⟩), pV p] w fun e w' => (∃ v, e = .returned v) ∧ SetP w' mb (n + 1) (addP L p) ∧ GrownX (fun k => k = mb) w w' := by
  obtain ⟨D, hown, hsz, hnd, hlt, hhas, hkl⟩ := hS
  have HH := hide hhas
  have HK := hide hkl
  clear hhas hkl
  have hrl : r < w.heap.size := World.block_lt_of_cell? w _ hc
  have hown2 : ((w.alloc (.cells #[.string p.a, .string p.b] 45)).drew).ownsMap Try.prog 45 (unitElem (H := Unit)) mb n D := by
    obtain ⟨es, ck, h1, h2⟩ := hown
    exact ⟨es, ck, (Below.heap_alloc _ _ _ (Array.getElem?_eq_some_iff.1 h1).1).trans h1, h2⟩
  obtain ⟨w1, hrun, hown1, hgrow1⟩ := hown2.update law45 Try.underlying48 (by unfold maxLen; omega) (key_pV hp) (unitElem_mk)
  have hrn : ¬ (r = w.heap.size) := by omega
  unfold pV at hrun ⊢
  go_enter Try.func41, Try.ntmps41
  go_wp2_with fail
  have c1 : (w.alloc (.cells #[.string p.a, .string p.b] 45)).cell? ⟨r, 0, none⟩ = some (.map (some mb)) := ((Below.refl w.heap.size w).alloc (Nat.le_refl _) _).cell (p := ⟨r, 0, none⟩) hrl |>.trans hc
  have c2 : (w.alloc (.cells #[.string p.a, .string p.b] 45)).cell? ⟨w.heap.size, 0, none⟩ = some (.string p.a) := by simp [go_sem]
  have c3 : (w.alloc (.cells #[.string p.a, .string p.b] 45)).cell? ⟨w.heap.size, 1, none⟩ = some (.string p.b) := by simp [go_sem]
  have hmb : ∀ k (v : Value) o, (w.alloc (.cells #[.string p.a, .string p.b] 45)).drew.cell? ⟨k, o, none⟩ = some v → some k ≠ some mb := by
    intro k v o hk e
    cases e
    obtain ⟨es, ck, h1, _⟩ := hown2
    simp only [World.cell?, h1] at hk
    cases hk
  have d1 : w1.cell? ⟨r, 0, none⟩ = some (.map (some mb)) := hgrow1.cell c1 (hmb _ _ _ c1)
  have d2 : w1.cell? ⟨w.heap.size, 0, none⟩ = some (.string p.a) := hgrow1.cell c2 (hmb _ _ _ c2)
  have d3 : w1.cell? ⟨w.heap.size, 1, none⟩ = some (.string p.b) := hgrow1.cell c3 (hmb _ _ _ c3)
  have HG1 := hide hgrow1
  have HO1 := hide hown1
  have HO := hide hown
  clear hgrow1 hown1 hmb hown2 hown
  go_region_held3 (fun w' => w'.cell? ⟨r, 0, none⟩ = some (.map (some mb)) ∧ w'.cell? ⟨w.heap.size, 0, none⟩ = some (.string p.a) ∧ w'.cell? ⟨w.heap.size, 1, none⟩ = some (.string p.b)) (first | (exact ⟨by assumption, by assumption, by assumption⟩) | go_keep) (fail)
  go_end0
  refine ⟨⟨_, rfl⟩, setP_put hp HO.out hsz hnd hlt HH.out HK.out _ HO1.out, ?_⟩
  have hz : w.heap.size < (w.alloc (.cells #[.string p.a, .string p.b] 45)).heap.size := by simp
  refine ⟨HG1.out.os, HG1.out.tape, HG1.out.output, Nat.le_trans (Nat.le_of_lt hz) HG1.out.size, fun k hk hm => ?_⟩
  exact (HG1.out.block k (Nat.lt_trans hk hz) (fun e => hm (by cases e; rfl))).trans (Below.heap_alloc _ _ _ hk)

/-- The policy that 'buildPolicy' makes of grants: role v's permissions lie in block β v; its struct in block β v + 4. -/
structure BG (W : World) (base pb rb N c : Nat) (β : Nat → Nat) (Pe : Nat → List PP) : Prop where
  cr : W.cell? ⟨pb, 1, none⟩ = some (.map (some rb))
  roles : RolesV W rb N N (fun v => β v + 4)
  fp : ∀ v, v < N → W.cell? ⟨β v + 4, 0, none⟩ = some (.map (some (β v)))
  pe : ∀ v, v < N → SetP W (β v) c (Pe v)
  lo1 : base ≤ pb
  lo2 : base ≤ rb
  ne : pb ≠ rb
  lo3 : ∀ v, v < N → pb < β v ∧ rb < β v
  ord : ∀ u v, u < v → v < N → β u + 5 ≤ β v
  hi : ∀ v, v < N → β v + 5 ≤ W.heap.size

theorem BG.below {W W' : World} {base pb rb N c : Nat} {β : Nat → Nat} {Pe : Nat → List PP} (h : BG W base pb rb N c β Pe) (hb : Below W.heap.size W W') : BG W' base pb rb N c β Pe := by
  have l1 : pb < W.heap.size := World.block_lt_of_cell? W _ h.cr
  have l2 : rb < W.heap.size := h.roles.lt
  refine ⟨(hb.cell (p := ⟨pb, 1, none⟩) l1).trans h.cr, h.roles.kept (hb.block _ l2), fun v hv => ?_, fun v hv => ?_, h.lo1, h.lo2, h.ne, h.lo3, h.ord, fun v hv => Nat.le_trans (h.hi v hv) hb.size⟩
  · have := h.hi v hv
    exact (hb.cell (p := ⟨β v + 4, 0, none⟩) (show β v + 4 < _ by omega)).trans (h.fp v hv)
  · have := h.hi v hv
    exact (h.pe v hv).kept (hb.block _ (by omega))

/-- One role more. -/
theorem BG.push {W W1 W2 W3 : World} {base pb rb k c : Nat} {β : Nat → Nat} {Pe : Nat → List PP} (h : BG W base pb rb k c β Pe) (hb1 : Below W.heap.size W W1)
    (c0 : W2.cell? ⟨W1.heap.size + 4, 0, none⟩ = some (.map (some W1.heap.size))) (s0 : SetP W2 W1.heap.size 0 []) (hb2 : Below W1.heap.size W1 W2) (hz : W2.heap.size = W1.heap.size + 5)
    (hR : RolesV W3 rb (k + 1) (k + 1) (fun v => if v = k then W1.heap.size + 4 else β v + 4)) (hg : W2.grownBy W3 (some rb)) (hJ : Pe k = []) :
    BG W3 base pb rb (k + 1) c (fun v => if v = k then W1.heap.size else β v) Pe := by
  have l1 : pb < W.heap.size := World.block_lt_of_cell? W _ h.cr
  have l2 : rb < W.heap.size := h.roles.lt
  have hs1 := hb1.size
  have hB : Below W.heap.size W W2 := hb1.trans (hb2.mono hs1)
  have h2 := h.below hB
  have hne : ∀ x, x ≠ rb → some x ≠ some rb := fun x hx e => hx (by cases e; rfl)
  have hcell : ∀ b o v, b ≠ rb → W2.cell? ⟨b, o, none⟩ = some v → W3.cell? ⟨b, o, none⟩ = some v := fun b o v hn hc => hg.cell hc (hne b hn)
  have hset : ∀ b n L, b ≠ rb → SetP W2 b n L → SetP W3 b n L := fun b n L hn hs => hs.kept (hg.block b hs.lt (hne b hn))
  refine ⟨hcell _ _ _ h.ne h2.cr, hR.congr (fun v _ => by show (if v = k then W1.heap.size + 4 else β v + 4) = (if v = k then W1.heap.size else β v) + 4; split <;> rfl), fun v hv => ?_, fun v hv => ?_, h.lo1, h.lo2, h.ne, fun v hv => ?_, fun u v huv hv => ?_, fun v hv => ?_⟩
  · by_cases e : v = k
    · subst e; simp only [if_true]; exact hcell _ _ _ (by omega) c0
    · have := h.lo3 v (by omega)
      simp only [if_neg e]; exact hcell _ _ _ (by omega) (h2.fp v (by omega))
  · by_cases e : v = k
    · subst e; simp only [if_true]; rw [hJ]; exact (hset _ _ _ (by omega) s0).mono (Nat.zero_le _)
    · have := h.lo3 v (by omega)
      simp only [if_neg e]; exact hset _ _ _ (by omega) (h2.pe v (by omega))
  · by_cases e : v = k
    · subst e; simp only [if_true]; omega
    · simp only [if_neg e]; exact h.lo3 v (by omega)
  · have hu : u ≠ k := by omega
    simp only [if_neg hu]
    by_cases e : v = k
    · subst e; simp only [if_true]; have := h.hi u (by omega); omega
    · simp only [if_neg e]; exact h.ord u v huv (by omega)
  · have := hg.size
    by_cases e : v = k
    · subst e; simp only [if_true]; omega
    · simp only [if_neg e]; have := h.hi v (by omega); omega

/-- A permission granted to role h. -/
theorem BG.grant {W W' : World} {base pb rb N c h : Nat} {p : PP} {β : Nat → Nat} {Pe : Nat → List PP} (hP : BG W base pb rb N c β Pe) (hh : h < N) (hg : GrownX (fun k => k = β h) W W') (hs : SetP W' (β h) (c + 1) (addP (Pe h) p)) :
    BG W' base pb rb N (c + 1) β (fun v => if v = h then addP (Pe h) p else Pe v) := by
  have ne : ∀ v, v < N → v ≠ h → ∀ i j, i < 5 → j < 5 → β v + i ≠ β h + j := by
    intro v hv hn i j hi hj
    rcases Nat.lt_or_gt_of_ne hn with h1 | h1
    · have := hP.ord v h h1 hh; omega
    · have := hP.ord h v h1 hv; omega
  have hblk : ∀ b, b < W.heap.size → b ≠ β h → W'.heap[b]? = W.heap[b]? := fun b hb hn => hg.block b hb hn
  have hcell : ∀ b o v, b ≠ β h → W.cell? ⟨b, o, none⟩ = some v → W'.cell? ⟨b, o, none⟩ = some v := fun b o v hn hc => by
    have hb := hblk b (World.block_lt_of_cell? W _ hc) hn
    simp only [World.cell?] at hc ⊢
    rw [hb]; exact hc
  have hl := hP.lo3 h hh
  refine ⟨hcell _ _ _ (by omega) hP.cr, hP.roles.kept (hblk _ hP.roles.lt (by omega)), fun v hv => ?_, fun v hv => ?_, hP.lo1, hP.lo2, hP.ne, hP.lo3, hP.ord, fun v hv => Nat.le_trans (hP.hi v hv) hg.size⟩
  · refine hcell _ _ _ ?_ (hP.fp v hv)
    by_cases e : v = h
    · subst e; omega
    · exact ne v hv e 4 0 (by omega) (by omega)
  · by_cases e : v = h
    · subst e; simp only [if_true]; exact hs
    · simp only [if_neg e]
      exact ((hP.pe v hv).kept (hblk _ (hP.pe v hv).lt (ne v hv e 0 0 (by omega) (by omega)))).mono (Nat.le_succ _)

/-- The permissions of role v behind k grants. -/
def peT (ro : List Nat) (ps : List PP) : Nat → Nat → List PP
  | 0 => fun _ => []
  | k + 1 => fun v => if v = ro.getD k 0 then addP (peT ro ps k (ro.getD k 0)) (ps.getD k ⟨⟨#[]⟩, ⟨#[]⟩⟩) else peT ro ps k v
theorem mem_peT (ro : List Nat) (ps : List PP) (k : Nat) (p : PP) (v : Nat) : p ∈ peT ro ps k v ↔ ∃ i, i < k ∧ ro.getD i 0 = v ∧ ps.getD i ⟨⟨#[]⟩, ⟨#[]⟩⟩ = p := by
  induction k generalizing p v with
  | zero => exact ⟨fun h => absurd h (List.not_mem_nil), fun ⟨i, h, _⟩ => absurd h (Nat.not_lt_zero _)⟩
  | succ k ih =>
    show p ∈ (if v = ro.getD k 0 then addP (peT ro ps k (ro.getD k 0)) (ps.getD k ⟨⟨#[]⟩, ⟨#[]⟩⟩) else peT ro ps k v) ↔ _
    by_cases e : v = ro.getD k 0
    · rw [if_pos e, mem_addP, ih]
      constructor
      · rintro (⟨i, h1, h2, h3⟩ | h)
        · exact ⟨i, by omega, h2.trans e.symm, h3⟩
        · exact ⟨k, by omega, e.symm, h.symm⟩
      · rintro ⟨i, h1, h2, h3⟩
        by_cases hk : i = k
        · subst hk; exact .inr h3.symm
        · exact .inl ⟨i, by omega, h2.trans e, h3⟩
    · rw [if_neg e, ih]
      constructor
      · rintro ⟨i, h1, h2, h3⟩
        exact ⟨i, by omega, h2, h3⟩
      · rintro ⟨i, h1, h2, h3⟩
        by_cases hk : i = k
        · subst hk; exact absurd h2.symm e
        · exact ⟨i, by omega, h2, h3⟩
end Go.Proofs.Qxb6609411a
