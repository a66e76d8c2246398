import Derived.Test.Qxb6609411aReachUp
import Derived.Test.Qxb6609411aReach1J
namespace Go.Proofs.Qxb6609411a
open Go.RowKit Go.Maps Go.WideMaps Go.WideElems Go.Shelf
attribute [local go_sem] Oper.semAt_some

set_option maxRecDepth 100000 in
set_option maxHeartbeats 2000000 in
theorem down_any (pb rb N nr fb nf : Nat) (q nb : Nat → Nat) (nxt : Nat → List Nat) (Lf : List Nat) (w : World) (hN : N ≤ 4096) (hP : PolAt w pb rb 2 N nr q nb nxt) (hLf : SetV w fb nf Lf) (hLfN : ∀ v ∈ Lf, v < N) :
    Calls Try.prog 19 #[.pointer (some ⟨pb, 0, none⟩), .map (some fb)] w fun e w' => ∃ gb Lg nn, e = .returned (.map (some gb)) ∧ w.heap.size ≤ gb ∧ SetV w' gb nn Lg ∧ (∀ v, v ∈ Lg ↔ Rch Lf nxt v) ∧ Below w.heap.size w w' := by
  have hmm := @run_makeMap Try.prog
  refine (callsIn_wide (n := 8)).1 ?_
  refine callsIn_of_wp_marks Try.func19 rfl trivial ?_ rfl
  simp only [Try.ntmps19, List.size_toArray, List.length_cons, List.length_nil, Nat.reduceAdd, Nat.reduceSub, Array.replicate_succ, Array.replicate_zero, List.push_toArray, List.append_toArray, List.nil_append, List.cons_append]
  gi_wp2_with fail
  refine ⟨trivial, ?_⟩
  refine (callsIn_wide.2 (keys_any (some fb) _)).mono ?_
  rintro e W1 ⟨rfl, rfl⟩
  gi_wp2_with fail
  refine ⟨trivial, ?_⟩
  refine (callsIn_wide.2 (reach_any pb _ 46 _)).mono ?_
  rintro e W1 ⟨rfl, rfl⟩
  gi_wp2_with fail
  obtain ⟨hz, hb, hS, hB, ck, cp, cf, cn⟩ := upW_facts w pb fb 46
  rw [show ((((((w.alloc (.map #[] 0)).alloc (.cells #[.map (some w.heap.size)] 29)).alloc (.cells #[.map (some fb)] 29)).alloc (.cells #[.pointer (some ⟨pb, 0, none⟩)] 27)).alloc (.cells #[.func (.func 54) #[] #[.pointer (some ⟨w.heap.size + 1 + 1, 0, none⟩)]] 64)).alloc (.cells #[.func (.func 46) #[] #[]] 66)) = upW w pb fb 46 from rfl]
  generalize upW w pb fb 46 = W0 at *
  have lt2 : pb < w.heap.size := World.block_lt_of_cell? w _ hP.cr
  have lt3 : rb < w.heap.size := hP.roles.lt
  have lt4 : ∀ v, v < N → q v < w.heap.size := fun v hv => World.block_lt_of_cell? w _ (hP.fields v hv)
  have lt5 : ∀ v, v < N → nb v < w.heap.size := fun v hv => (hP.sets v hv).lt
  have ltf : fb < w.heap.size := hLf.lt
  have hPW : PolW W0 (w.heap.size + 1 + 1 + 1) pb rb 2 N nr q nb nxt :=
    ⟨cp, (hb.cell (p := ⟨pb, 1, none⟩) lt2).trans hP.cr, hP.roles.kept (hb.block _ lt3), fun v hv => (hb.cell (p := ⟨q v, 2, none⟩) (lt4 v hv)).trans (hP.fields v hv), fun v hv => (hP.sets v hv).kept (hb.block _ (lt5 v hv)), hP.closed⟩
  have hPP : PolPr (fun k => k ≠ w.heap.size ∧ k < w.heap.size + 6) (w.heap.size + 1 + 1 + 1) pb rb N q nb :=
    ⟨by omega, by omega, by omega, fun v hv => by have := lt4 v hv; omega, fun v hv => by have := lt5 v hv; omega⟩
  have hseq := reach1_juniors 7 (w.heap.size + 1 + 1 + 1 + 1) (w.heap.size + 1 + 1 + 1) (w.heap.size + 1 + 1 + 1 + 1 + 1) (w.heap.size + 1 + 1) fb nf pb rb N nr q nb nxt Lf (fun k => k ≠ w.heap.size ∧ k < w.heap.size + 6) W0 hN hPW hPP (by omega) cf ck (hLf.kept (hb.block _ ltf)) hLfN cn
  have hab : Abide (loopMine W0 (fun base k => base ≤ k)) (UpI w w.heap.size (w.heap.size + 1)) := by
    rintro pre A A' ⟨⟨Lg, h1, h2⟩, h3, h4⟩ hg
    have hne : ∀ k, k < w.heap.size + 6 → ¬ loopMine W0 (fun base k => base ≤ k) k := by
      rintro k hk (h | h | h) <;> omega
    exact ⟨⟨Lg, h1.kept (hg.block _ h1.lt (hne _ (by omega))), h2⟩, (hg.block _ h3.lt (hne _ (by omega))).trans h3, hg.below h4 (fun k hk => hne k (by omega)) h4.size⟩
  refine wpIn_rangeX (gf := 52) (lb := #[.pointer (some ⟨w.heap.size + 1 + 1 + 1 + 1, 0, none⟩), .pointer (some ⟨w.heap.size + 1 + 1 + 1, 0, none⟩), .pointer (some ⟨w.heap.size + 1 + 1 + 1 + 1 + 1, 0, none⟩)]) rfl (enters_of Try.func52 (by kernel_rfl) rfl)
    hseq (fun k e => by omega) (fun k e => e) (fun _ => rfl)
    (UpI w w.heap.size (w.heap.size + 1)) hab ⟨⟨[], hS, fun v => Iff.rfl⟩, hB, hb⟩
    (fun x => { tmps := #[.pointer (some ⟨pb, 0, none⟩), .map (some fb), undef, undef, .map none, .pointer (some ⟨w.heap.size + 1, 0, none⟩), .string (nm x), .map (some w.heap.size), .pointer (some ⟨pb, 0, none⟩), .map (some fb), .func (.func 54) #[] #[.pointer (some ⟨w.heap.size + 1 + 1, 0, none⟩)], .func (.func 52) #[] #[.pointer (some ⟨w.heap.size + 1 + 1 + 1 + 1, 0, none⟩), .pointer (some ⟨w.heap.size + 1 + 1 + 1, 0, none⟩), .pointer (some ⟨w.heap.size + 1 + 1 + 1 + 1 + 1, 0, none⟩)], .string (nm x), .pointer (some ⟨q x, 0, none⟩), undef, undef, undef, undef], defers := [] }) ?assign ?body ?done
  case assign =>
    intro l x W K hK
    gi_wp2
    exact hK
  case body =>
    rintro l pre x W ⟨⟨Lg, ⟨D, hown, hsz, hnd, hlt, hhas, hkl⟩, hmem⟩, hbox, hbel⟩ hbig hlen hx
    have hcb := hbox.cell
    have HH := hide hhas
    have HK := hide hkl
    clear hhas hkl
    gi_wp2_with (first
      | (gi_at_mapUpdate; refine wpListIn_mapUpdate_own _ rfl _ _ _ 29 rfl 9 32 law9 Try.underlying29 _ w.heap.size pre.length _ rfl hown (by unfold maxLen; omega) _ _ _ rfl rfl (key_nm x) _ [] unitElem_mk ?_; intro w1 hown1 hgrow1)
      | gi_in)
    have hxl : x < 4096 := by omega
    have hne : ¬ (loopMine W0 (fun base k => base ≤ k) w.heap.size ∨ w.heap.size ≠ w.heap.size ∧ w.heap.size < w.heap.size + 6) := by
      rintro ((h | h | h) | h) <;> omega
    refine ⟨KeepX.of_grown hgrow1 (fun k e => by cases e; exact hne), ⟨addV Lg x, ?_, fun v => ?_⟩, hbox.kept hgrow1 (by intro e; rw [Option.some.injEq] at e; omega), hbel.grown hgrow1 hbel.size (fun k e => by cases e; exact Nat.le_refl _)⟩
    · have h1 := setV_put hxl hown hsz hnd hlt HH.out HK.out _ hown1
      simpa using h1
    · rw [mem_addV, hmem v, List.mem_append, List.mem_singleton]
  case done =>
    rintro D xs W hD hxs hi hK
    have hcb := hi.box.cell
    gi_wp2
    subst hD
    obtain ⟨⟨Lg, hSet, hmem⟩, hbox, hbel⟩ := hab xs W _ hi (GrownX.of_grown (grownBy_putObj' W W0.heap.size (.deferred none)) (fun r e => by cases e; exact .inl rfl))
    refine ⟨by simp, .inl ⟨_, _, rfl, run_takeDeferred hK, ?_⟩⟩
    exact ⟨_, results_tmp rfl _ _ _, _, Lg, _, rfl, Nat.le_refl _, hSet, fun v => by rw [hmem v, hxs v], hbel⟩
end Go.Proofs.Qxb6609411a
