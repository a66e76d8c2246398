import Derived.Test.Qxb6609411aReach1
namespace Go.Proofs.Qxb6609411a
open Go.RowKit Go.Maps Go.WideMaps Go.WideElems Go.Shelf
attribute [local go_sem] Oper.semAt_some

theorem reach_any (pb Bm nx : Nat) (w : World) : Calls Try.prog 42 #[.pointer (some ⟨pb, 0, none⟩), .func (.func 54) #[] #[.pointer (some ⟨Bm, 0, none⟩)], .func (.func nx) #[] #[]] w fun e w' =>
    e = .returned (.func (.func 52) #[] #[.pointer (some ⟨w.heap.size + 1, 0, none⟩), .pointer (some ⟨w.heap.size, 0, none⟩), .pointer (some ⟨w.heap.size + 1 + 1, 0, none⟩)]) ∧
      ((w.alloc (.cells #[.pointer (some ⟨pb, 0, none⟩)] 27)).alloc (.cells #[.func (.func 54) #[] #[.pointer (some ⟨Bm, 0, none⟩)]] 64)).alloc (.cells #[.func (.func nx) #[] #[]] 66) = w' := by
  go_enter Try.func42, Try.ntmps42
  go_wp2
  go_ret
  exact ⟨rfl, rfl⟩

/-- The word between two rounds of ZZreachUp | ZZreachDown. -/
structure UpI (w : World) (gb Bg : Nat) (pre : List Nat) (W : World) : Prop where
  ex : ∃ Lg, SetV W gb pre.length Lg ∧ ∀ v, v ∈ Lg ↔ v ∈ pre
  box : Boxed W Bg 29 (.map (some gb))
  below : Below w.heap.size w W

/-- What the policy looks like where the walk begins. -/
structure PolAt (w : World) (pb rb fld N nr : Nat) (q nb : Nat → Nat) (nxt : Nat → List Nat) : Prop where
  cr : w.cell? ⟨pb, 1, none⟩ = some (.map (some rb))
  roles : RolesV w rb nr N q
  fields : ∀ v, v < N → w.cell? ⟨q v, fld, none⟩ = some (.map (some (nb v)))
  sets : ∀ v, v < N → SetV w (nb v) 4096 (nxt v)
  closed : ∀ v, v < N → ∀ u ∈ nxt v, u < N

/-- The world where the range over reach's function begins. -/
def upW (w : World) (pb fb nx : Nat) : World :=
  (((((w.alloc (.map #[] 0)).alloc (.cells #[.map (some w.heap.size)] 29)).alloc (.cells #[.map (some fb)] 29)).alloc (.cells #[.pointer (some ⟨pb, 0, none⟩)] 27)).alloc (.cells #[.func (.func 54) #[] #[.pointer (some ⟨w.heap.size + 1 + 1, 0, none⟩)]] 64)).alloc (.cells #[.func (.func nx) #[] #[]] 66)

theorem upW_facts (w : World) (pb fb nx : Nat) : (upW w pb fb nx).heap.size = w.heap.size + 6 ∧ Below w.heap.size w (upW w pb fb nx) ∧ SetV (upW w pb fb nx) w.heap.size 0 [] ∧ Boxed (upW w pb fb nx) (w.heap.size + 1) 29 (.map (some w.heap.size)) ∧
    (upW w pb fb nx).cell? ⟨w.heap.size + 1 + 1, 0, none⟩ = some (.map (some fb)) ∧ (upW w pb fb nx).cell? ⟨w.heap.size + 1 + 1 + 1, 0, none⟩ = some (.pointer (some ⟨pb, 0, none⟩)) ∧
    (upW w pb fb nx).cell? ⟨w.heap.size + 1 + 1 + 1 + 1, 0, none⟩ = some (.func (.func 54) #[] #[.pointer (some ⟨w.heap.size + 1 + 1, 0, none⟩)]) ∧ (upW w pb fb nx).cell? ⟨w.heap.size + 1 + 1 + 1 + 1 + 1, 0, none⟩ = some (.func (.func nx) #[] #[]) := by
  have hz : (upW w pb fb nx).heap.size = w.heap.size + 6 := by simp [upW]
  have hb : Below w.heap.size w (upW w pb fb nx) := by
    unfold upW
    exact ((((((Below.refl _ w).alloc (Nat.le_refl _) _).alloc (by simp) _).alloc (by simp; omega) _).alloc (by simp; omega) _).alloc (by simp; omega) _).alloc (by simp; omega) _
  have h0 : (upW w pb fb nx).heap[w.heap.size]? = (w.alloc (.map #[] 0)).heap[w.heap.size]? := by
    unfold upW
    rw [Below.heap_alloc _ _ _ (by simp; omega), Below.heap_alloc _ _ _ (by simp; omega), Below.heap_alloc _ _ _ (by simp; omega), Below.heap_alloc _ _ _ (by simp; omega), Below.heap_alloc _ _ _ (by simp)]
  refine ⟨hz, hb, (setV_made w).kept h0, ?_, ?_, ?_, ?_, ?_⟩
  · have h1 := Boxed.new (w.alloc (.map #[] 0)) 29 (.map (some w.heap.size))
    have h2 := (((h1.alloc (.cells #[.map (some fb)] 29)).alloc (.cells #[.pointer (some ⟨pb, 0, none⟩)] 27)).alloc (.cells #[.func (.func 54) #[] #[.pointer (some ⟨w.heap.size + 1 + 1, 0, none⟩)]] 64)).alloc (.cells #[.func (.func nx) #[] #[]] 66)
    simp only [World.size_alloc] at h2
    exact h2
  all_goals (unfold upW; simp [go_sem])

set_option maxRecDepth 100000 in
set_option maxHeartbeats 2000000 in
theorem up_any (pb rb N nr fb nf : Nat) (q nb : Nat → Nat) (nxt : Nat → List Nat) (Lf : List Nat) (w : World) (hN : N ≤ 4096) (hP : PolAt w pb rb 3 N nr q nb nxt) (hLf : SetV w fb nf Lf) (hLfN : ∀ v ∈ Lf, v < N) :
    Calls Try.prog 15 #[.pointer (some ⟨pb, 0, none⟩), .map (some fb)] w fun e w' => ∃ gb Lg nn, e = .returned (.map (some gb)) ∧ w.heap.size ≤ gb ∧ SetV w' gb nn Lg ∧ (∀ v, v ∈ Lg ↔ Rch Lf nxt v) ∧ Below w.heap.size w w' := by
  have hmm := @run_makeMap Try.prog
  refine (callsIn_wide (n := 8)).1 ?_
  refine callsIn_of_wp_marks Try.func15 rfl trivial ?_ rfl
  simp only [Try.ntmps15, List.size_toArray, List.length_cons, List.length_nil, Nat.reduceAdd, Nat.reduceSub, Array.replicate_succ, Array.replicate_zero, List.push_toArray, List.append_toArray, List.nil_append, List.cons_append]
  gi_wp2_with fail
  refine ⟨trivial, ?_⟩
  refine (callsIn_wide.2 (keys_any (some fb) _)).mono ?_
  rintro e W1 ⟨rfl, rfl⟩
  gi_wp2_with fail
  refine ⟨trivial, ?_⟩
  refine (callsIn_wide.2 (reach_any pb _ 44 _)).mono ?_
  rintro e W1 ⟨rfl, rfl⟩
  gi_wp2_with fail
  obtain ⟨hz, hb, hS, hB, ck, cp, cf, cn⟩ := upW_facts w pb fb 44
  rw [show ((((((w.alloc (.map #[] 0)).alloc (.cells #[.map (some w.heap.size)] 29)).alloc (.cells #[.map (some fb)] 29)).alloc (.cells #[.pointer (some ⟨pb, 0, none⟩)] 27)).alloc (.cells #[.func (.func 54) #[] #[.pointer (some ⟨w.heap.size + 1 + 1, 0, none⟩)]] 64)).alloc (.cells #[.func (.func 44) #[] #[]] 66)) = upW w pb fb 44 from rfl]
  generalize upW w pb fb 44 = W0 at *
  have lt2 : pb < w.heap.size := World.block_lt_of_cell? w _ hP.cr
  have lt3 : rb < w.heap.size := hP.roles.lt
  have lt4 : ∀ v, v < N → q v < w.heap.size := fun v hv => World.block_lt_of_cell? w _ (hP.fields v hv)
  have lt5 : ∀ v, v < N → nb v < w.heap.size := fun v hv => (hP.sets v hv).lt
  have ltf : fb < w.heap.size := hLf.lt
  have hPW : PolW W0 (w.heap.size + 1 + 1 + 1) pb rb 3 N nr q nb nxt :=
    ⟨cp, (hb.cell (p := ⟨pb, 1, none⟩) lt2).trans hP.cr, hP.roles.kept (hb.block _ lt3), fun v hv => (hb.cell (p := ⟨q v, 3, none⟩) (lt4 v hv)).trans (hP.fields v hv), fun v hv => (hP.sets v hv).kept (hb.block _ (lt5 v hv)), hP.closed⟩
  have hPP : PolPr (fun k => k ≠ w.heap.size ∧ k < w.heap.size + 6) (w.heap.size + 1 + 1 + 1) pb rb N q nb :=
    ⟨by omega, by omega, by omega, fun v hv => by have := lt4 v hv; omega, fun v hv => by have := lt5 v hv; omega⟩
  have hseq := reach1_seniors 7 (w.heap.size + 1 + 1 + 1 + 1) (w.heap.size + 1 + 1 + 1) (w.heap.size + 1 + 1 + 1 + 1 + 1) (w.heap.size + 1 + 1) fb nf pb rb N nr q nb nxt Lf (fun k => k ≠ w.heap.size ∧ k < w.heap.size + 6) W0 hN hPW hPP (by omega) cf ck (hLf.kept (hb.block _ ltf)) hLfN cn
  have hab : Abide (loopMine W0 (fun base k => base ≤ k)) (UpI w w.heap.size (w.heap.size + 1)) := by
    rintro pre A A' ⟨⟨Lg, h1, h2⟩, h3, h4⟩ hg
    have hne : ∀ k, k < w.heap.size + 6 → ¬ loopMine W0 (fun base k => base ≤ k) k := by
      rintro k hk (h | h | h) <;> omega
    exact ⟨⟨Lg, h1.kept (hg.block _ h1.lt (hne _ (by omega))), h2⟩, (hg.block _ h3.lt (hne _ (by omega))).trans h3, hg.below h4 (fun k hk => hne k (by omega)) h4.size⟩
  refine wpIn_rangeX (gf := 52) (lb := #[.pointer (some ⟨w.heap.size + 1 + 1 + 1 + 1, 0, none⟩), .pointer (some ⟨w.heap.size + 1 + 1 + 1, 0, none⟩), .pointer (some ⟨w.heap.size + 1 + 1 + 1 + 1 + 1, 0, none⟩)]) rfl (enters_of Try.func52 (by kernel_rfl) rfl)
    hseq (fun k e => by omega) (fun k e => e) (fun _ => rfl)
    (UpI w w.heap.size (w.heap.size + 1)) hab ⟨⟨[], hS, fun v => Iff.rfl⟩, hB, hb⟩
    (fun x => { tmps := #[.pointer (some ⟨pb, 0, none⟩), .map (some fb), undef, undef, .map none, .pointer (some ⟨w.heap.size + 1, 0, none⟩), .string (nm x), .map (some w.heap.size), .pointer (some ⟨pb, 0, none⟩), .map (some fb), .func (.func 54) #[] #[.pointer (some ⟨w.heap.size + 1 + 1, 0, none⟩)], .func (.func 52) #[] #[.pointer (some ⟨w.heap.size + 1 + 1 + 1 + 1, 0, none⟩), .pointer (some ⟨w.heap.size + 1 + 1 + 1, 0, none⟩), .pointer (some ⟨w.heap.size + 1 + 1 + 1 + 1 + 1, 0, none⟩)], .string (nm x), .pointer (some ⟨q x, 0, none⟩), undef, undef, undef, undef], defers := [] }) ?assign ?body ?done
  case assign =>
    intro l x W K hK
    gi_wp2
    exact hK
  case body =>
    rintro l pre x W ⟨⟨Lg, ⟨D, hown, hsz, hnd, hlt, hhas, hkl⟩, hmem⟩, hbox, hbel⟩ hbig hlen hx
    have hcb := hbox.cell
    have HH := hide hhas
    have HK := hide hkl
    clear hhas hkl
    gi_wp2_with (first
      | (gi_at_mapUpdate; refine wpListIn_mapUpdate_own _ rfl _ _ _ 29 rfl 9 32 law9 Try.underlying29 _ w.heap.size pre.length _ rfl hown (by unfold maxLen; omega) _ _ _ rfl rfl (key_nm x) _ [] unitElem_mk ?_; intro w1 hown1 hgrow1)
      | gi_in)
    have hxl : x < 4096 := by omega
    have hne : ¬ (loopMine W0 (fun base k => base ≤ k) w.heap.size ∨ w.heap.size ≠ w.heap.size ∧ w.heap.size < w.heap.size + 6) := by
      rintro ((h | h | h) | h) <;> omega
    refine ⟨KeepX.of_grown hgrow1 (fun k e => by cases e; exact hne), ⟨addV Lg x, ?_, fun v => ?_⟩, hbox.kept hgrow1 (by intro e; rw [Option.some.injEq] at e; omega), hbel.grown hgrow1 hbel.size (fun k e => by cases e; exact Nat.le_refl _)⟩
    · have h1 := setV_put hxl hown hsz hnd hlt HH.out HK.out _ hown1
      simpa using h1
    · rw [mem_addV, hmem v, List.mem_append, List.mem_singleton]
  case done =>
    rintro D xs W hD hxs hi hK
    have hcb := hi.box.cell
    gi_wp2
    subst hD
    obtain ⟨⟨Lg, hSet, hmem⟩, hbox, hbel⟩ := hab xs W _ hi (GrownX.of_grown (grownBy_putObj' W W0.heap.size (.deferred none)) (fun r e => by cases e; exact .inl rfl))
    refine ⟨by simp, .inl ⟨_, _, rfl, run_takeDeferred hK, ?_⟩⟩
    exact ⟨_, results_tmp rfl _ _ _, _, Lg, _, rfl, Nat.le_refl _, hSet, fun v => by rw [hmem v, hxs v], hbel⟩
end Go.Proofs.Qxb6609411a
