import Derived.Test.Qxb6609411aReachUp
namespace Go.Proofs.Qxb6609411a
open Go.RowKit Go.Maps Go.WideMaps Go.WideElems

/-- The policy that 'buildPolicy' makes, N roles in it: role v's four maps and its struct lie in the five blocks from β v on. -/
structure BP (W : World) (base pb rb N : Nat) (β : Nat → Nat) (Ju Se : Nat → List Nat) : Prop where
  cr : W.cell? ⟨pb, 1, none⟩ = some (.map (some rb))
  roles : RolesV W rb N N (fun v => β v + 4)
  fj : ∀ v, v < N → W.cell? ⟨β v + 4, 2, none⟩ = some (.map (some (β v + 2)))
  fs : ∀ v, v < N → W.cell? ⟨β v + 4, 3, none⟩ = some (.map (some (β v + 3)))
  ju : ∀ v, v < N → SetV W (β v + 2) (Ju v).length (Ju v)
  se : ∀ v, v < N → SetV W (β v + 3) (Se v).length (Se v)
  lo1 : base ≤ pb
  lo2 : base ≤ rb
  ne : pb ≠ rb
  lo3 : ∀ v, v < N → pb < β v ∧ rb < β v
  ord : ∀ u v, u < v → v < N → β u + 5 ≤ β v
  hi : ∀ v, v < N → β v + 5 ≤ W.heap.size

theorem BP.below {W W' : World} {base pb rb N : Nat} {β : Nat → Nat} {Ju Se : Nat → List Nat} (h : BP W base pb rb N β Ju Se) (hb : Below W.heap.size W W') : BP W' base pb rb N β Ju Se := by
  have l1 : pb < W.heap.size := World.block_lt_of_cell? W _ h.cr
  have l2 : rb < W.heap.size := h.roles.lt
  refine ⟨(hb.cell (p := ⟨pb, 1, none⟩) l1).trans h.cr, h.roles.kept (hb.block _ l2), fun v hv => ?_, fun v hv => ?_, fun v hv => ?_, fun v hv => ?_, h.lo1, h.lo2, h.ne, h.lo3, h.ord, fun v hv => Nat.le_trans (h.hi v hv) hb.size⟩
  · have := h.hi v hv
    exact (hb.cell (p := ⟨β v + 4, 2, none⟩) (show β v + 4 < _ by omega)).trans (h.fj v hv)
  · have := h.hi v hv
    exact (hb.cell (p := ⟨β v + 4, 3, none⟩) (show β v + 4 < _ by omega)).trans (h.fs v hv)
  · have := h.hi v hv
    exact (h.ju v hv).kept (hb.block _ (by omega))
  · have := h.hi v hv
    exact (h.se v hv).kept (hb.block _ (by omega))

theorem newPolicy_any (w : World) : Calls Try.prog 35 #[] w fun e w' => e = .returned (.pointer (some ⟨w.heap.size + 1, 0, none⟩)) ∧ RolesV w' w.heap.size 0 0 (fun _ => 0) ∧ w'.cell? ⟨w.heap.size + 1, 1, none⟩ = some (.map (some w.heap.size)) ∧ Below w.heap.size w w' ∧ w'.heap.size = w.heap.size + 2 := by
  have hmm := @run_makeMap Try.prog
  go_enter Try.func35, Try.ntmps35
  go_wp2
  go_ret
  refine ⟨rfl, ?_, by simp [go_sem], ((Below.refl _ w).alloc (Nat.le_refl _) _).alloc (by simp) _, by simp⟩
  exact ⟨.map [], (World.ownsMap_made w Try.prog 9 ptrElem).alloc _, fun v hv => absurd hv (Nat.not_lt_zero _)⟩

theorem setV_new {w : World} {b : Nat} (h : w.heap[b]? = some (.map #[] 0)) : SetV w b 0 [] := by
  have hl : b < w.heap.size := (Array.getElem?_eq_some_iff.1 h).1
  obtain ⟨D, ⟨es, ck, h1, h2, h3, h4⟩, hr⟩ := setV_made w
  rw [World.alloc_heap_new] at h1
  cases h1
  exact ⟨D, ⟨#[], 0, h, h2, h3, h4⟩, hr⟩

theorem newRole_any (w : World) : Calls Try.prog 37 #[] w fun e w' => e = .returned (.pointer (some ⟨w.heap.size + 4, 0, none⟩)) ∧ w'.cell? ⟨w.heap.size + 4, 0, none⟩ = some (.map (some w.heap.size)) ∧ w'.cell? ⟨w.heap.size + 4, 2, none⟩ = some (.map (some (w.heap.size + 2))) ∧ w'.cell? ⟨w.heap.size + 4, 3, none⟩ = some (.map (some (w.heap.size + 3))) ∧
    w'.heap[w.heap.size]? = some (.map #[] 0) ∧ SetV w' (w.heap.size + 2) 0 [] ∧ SetV w' (w.heap.size + 3) 0 [] ∧ Below w.heap.size w w' ∧ w'.heap.size = w.heap.size + 5 := by
  have hmm := @run_makeMap Try.prog
  go_enter Try.func37, Try.ntmps37
  go_wp2
  go_ret
  refine ⟨rfl, by simp [go_sem], by simp [go_sem], by simp [go_sem], ?_, setV_new ?_, setV_new ?_, ((((((Below.refl _ w).alloc (Nat.le_refl _) _).alloc (by simp) _).alloc (by simp; omega) _).alloc (by simp; omega) _).alloc (by simp; omega) _), by simp⟩
  · rw [Below.heap_alloc _ _ _ (by simp; omega), Below.heap_alloc _ _ _ (by simp; omega), Below.heap_alloc _ _ _ (by simp; omega), Below.heap_alloc _ _ _ (by simp), World.alloc_heap_new]
  · rw [Below.heap_alloc _ _ _ (by simp), Below.heap_alloc _ _ _ (by simp)]
    have := World.alloc_heap_new ((w.alloc (.map #[] 0)).alloc (.map #[] 0)) (.map #[] 0)
    simpa using this
  · rw [Below.heap_alloc _ _ _ (by simp)]
    have := World.alloc_heap_new (((w.alloc (.map #[] 0)).alloc (.map #[] 0)).alloc (.map #[] 0)) (.map #[] 0)
    simpa using this

/-- 'p.roles[name] = r' for a new role. -/
theorem putRole_any (pb rb k b : Nat) (q : Nat → Nat) (w : World) (hk : k < 4096) (hc : w.cell? ⟨pb, 1, none⟩ = some (.map (some rb))) (hR : RolesV w rb k k q) :
    Calls Try.prog 36 #[.pointer (some ⟨pb, 0, none⟩), .string (nm k), .pointer (some ⟨b, 0, none⟩)] w fun e w' => (∃ v, e = .returned v) ∧ RolesV w' rb (k + 1) (k + 1) (fun v => if v = k then b else q v) ∧ w.grownBy w' (some rb) := by
  obtain ⟨D, hown, hat⟩ := hR
  have HA := hide hat
  clear hat
  go_enter Try.func36, Try.ntmps36
  go_wp2_with (first | (at_mapUpdate; refine wpList_mapUpdate_own _ rfl _ _ _ 71 rfl 9 55 law9 Try.underlying71 _ rb k _ rfl hown (by unfold maxLen; omega) _ _ _ rfl rfl (key_nm k) _ [] (show ptrElem (.pointer (some ⟨b, 0, none⟩)) = some (.lit (.int .i64 (b : Int)), []) from rfl) ?_; intro w1 hown1 hgrow1) | go_in)
  go_end0
  refine ⟨⟨_, rfl⟩, ⟨_, hown1, fun v hv => ?_⟩, hgrow1⟩
  show _ = DataW.lit (Lit.int .i64 ((if v = k then b else q v : Nat) : Int))
  by_cases e : v = k
  · subst e
    rw [if_pos rfl]
    exact Maps.atKey_put_same hown.isMap (kN_lit _) _ _
  · rw [if_neg e, Maps.atKey_put_other (fun h => e (kN_inj (by omega) hk h))]
    exact HA.out v (by omega)

theorem RolesV.congr {w : World} {rb nr N : Nat} {q q' : Nat → Nat} (h : RolesV w rb nr N q) (he : ∀ v, v < N → q v = q' v) : RolesV w rb nr N q' := by
  obtain ⟨D, h1, h2⟩ := h
  exact ⟨D, h1, fun v hv => by rw [← he v hv]; exact h2 v hv⟩

/-- One role more. -/
theorem BP.push {W W1 W2 W3 : World} {base pb rb k : Nat} {β : Nat → Nat} {Ju Se : Nat → List Nat} (h : BP W base pb rb k β Ju Se) (hb1 : Below W.heap.size W W1)
    (c2 : W2.cell? ⟨W1.heap.size + 4, 2, none⟩ = some (.map (some (W1.heap.size + 2)))) (c3 : W2.cell? ⟨W1.heap.size + 4, 3, none⟩ = some (.map (some (W1.heap.size + 3))))
    (s2 : SetV W2 (W1.heap.size + 2) 0 []) (s3 : SetV W2 (W1.heap.size + 3) 0 []) (hb2 : Below W1.heap.size W1 W2) (hz : W2.heap.size = W1.heap.size + 5)
    (hR : RolesV W3 rb (k + 1) (k + 1) (fun v => if v = k then W1.heap.size + 4 else β v + 4)) (hg : W2.grownBy W3 (some rb)) (hJ : Ju k = []) (hS : Se k = []) :
    BP W3 base pb rb (k + 1) (fun v => if v = k then W1.heap.size else β v) Ju Se := by
  have l1 : pb < W.heap.size := World.block_lt_of_cell? W _ h.cr
  have l2 : rb < W.heap.size := h.roles.lt
  have hs1 := hb1.size
  have hB : Below W.heap.size W W2 := hb1.trans (hb2.mono hs1)
  have h2 := h.below hB
  have hne : ∀ x, x ≠ rb → some x ≠ some rb := fun x hx e => hx (by cases e; rfl)
  have hcell : ∀ b o v, b ≠ rb → W2.cell? ⟨b, o, none⟩ = some v → W3.cell? ⟨b, o, none⟩ = some v := fun b o v hn hc => hg.cell hc (hne b hn)
  have hset : ∀ b n L, b ≠ rb → SetV W2 b n L → SetV W3 b n L := fun b n L hn hs => hs.kept (hg.block b hs.lt (hne b hn))
  refine ⟨hcell _ _ _ h.ne h2.cr, hR.congr (fun v _ => by show (if v = k then W1.heap.size + 4 else β v + 4) = (if v = k then W1.heap.size else β v) + 4; split <;> rfl), fun v hv => ?_, fun v hv => ?_, fun v hv => ?_, fun v hv => ?_, h.lo1, h.lo2, h.ne, fun v hv => ?_, fun u v huv hv => ?_, fun v hv => ?_⟩
  · by_cases e : v = k
    · subst e; simp only [if_true]; exact hcell _ _ _ (by omega) c2
    · have := h.lo3 v (by omega)
      simp only [if_neg e]; exact hcell _ _ _ (by omega) (h2.fj v (by omega))
  · by_cases e : v = k
    · subst e; simp only [if_true]; exact hcell _ _ _ (by omega) c3
    · have := h.lo3 v (by omega)
      simp only [if_neg e]; exact hcell _ _ _ (by omega) (h2.fs v (by omega))
  · by_cases e : v = k
    · subst e; simp only [if_true]; rw [hJ]; exact hset _ _ _ (by omega) s2
    · have := h.lo3 v (by omega)
      simp only [if_neg e]; exact hset _ _ _ (by omega) (h2.ju v (by omega))
  · by_cases e : v = k
    · subst e; simp only [if_true]; rw [hS]; exact hset _ _ _ (by omega) s3
    · have := h.lo3 v (by omega)
      simp only [if_neg e]; exact hset _ _ _ (by omega) (h2.se v (by omega))
  · by_cases e : v = k
    · subst e; simp only [if_true]; omega
    · simp only [if_neg e]; exact h.lo3 v (by omega)
  · have hu : u ≠ k := by omega
    simp only [if_neg hu]
    by_cases e : v = k
    · subst e; simp only [if_true]; have := h.hi u (by omega); omega
    · simp only [if_neg e]; exact h.ord u v huv (by omega)
  · have := hg.size
    by_cases e : v = k
    · subst e; simp only [if_true]; omega
    · simp only [if_neg e]; have := h.hi v (by omega); omega
end Go.Proofs.Qxb6609411a
