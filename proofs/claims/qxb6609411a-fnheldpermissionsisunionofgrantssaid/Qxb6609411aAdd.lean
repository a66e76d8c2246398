import Derived.Test.Qxb6609411aKeys
import Derived.Maps.AppendAt
import Derived.Shelf.Abstract
namespace Go.Proofs.Qxb6609411a
open Go.RowKit Go.Maps Go.WideMaps Go.WideElems Go.Shelf
attribute [local go_sem] Oper.semAt_some

theorem SetV.mono {w : World} {b n n' : Nat} {L : List Nat} (h : SetV w b n L) (hn : n ≤ n') : SetV w b n' L := by
  obtain ⟨D, h1, h2⟩ := h
  exact ⟨D, h1.mono hn, h2⟩

def nmV (v : Nat) : Value := .string (nm v)

theorem info9 : (Try.prog.info? 9).map (fun i => (i.zero, i.size, i.bytes)) = some (some (.string ⟨#[]⟩), 1, 16) := by kernel_rfl

/-- The box Bp holds a slice of the call's own, which reads as the names of the roles on Pl. -/
def Pend (W : World) (Bp base : Nat) (Pl : List Nat) : Prop := ∃ pv, Boxed W Bp 37 pv ∧ W.ownsRow base 9 1 pv Pl.length (Pl.map nmV)

/-- The word between two rounds of 'add'. -/
structure AddI (w : World) (base sm Bs Bp n1 : Nat) (Sn Pn : List Nat) (pre : List Nat) (W : World) : Prop where
  ex : ∃ ns, SetV W sm (n1 + pre.length) (Sn ++ ns) ∧ (∃ pv, Boxed W Bp 37 pv ∧ W.ownsRow base 9 1 pv (Pn ++ ns).length ((Pn ++ ns).map nmV) ∧ (∀ g, pv.ownBlock = some g → g < w.heap.size ∨ w.heap.size + 3 ≤ g)) ∧ (∀ v, v ∈ Sn ++ ns ↔ v ∈ Sn ∨ v ∈ pre) ∧ ns.length ≤ pre.length
  seen : Boxed W Bs 29 (.map (some sm))
  below : Below base w W

theorem ownsRow_same {w w' : World} {base : Nat} {e : TypeId} {size : Nat} {v : Value} {n : Nat} {xs : List Value} (h : w.ownsRow base e size v n xs) (hb : ∀ g, v.ownBlock = some g → w'.heap[g]? = w.heap[g]?) : w'.ownsRow base e size v n xs := by
  refine ⟨h.1, ?_⟩
  rcases h.2 with h1 | ⟨g, cap, cur, rfl, h2, h3, h4⟩
  · exact .inl h1
  · exact .inr ⟨g, cap, cur, rfl, h2, (hb g rfl).trans h3, h4⟩

theorem addI_abide (w : World) (base sm Bs Bp n1 : Nat) (Sn Pn : List Nat) (hsm : sm < w.heap.size) (hBs : Bs < w.heap.size) (hBp : Bp < w.heap.size) (hb : base ≤ w.heap.size) :
    Abide (loopMine w (fun b k => k = b)) (AddI w base sm Bs Bp n1 Sn Pn) := by
  rintro pre A A' ⟨⟨ns, h1, ⟨pv, h2, h3, h4⟩, h5, h6⟩, h7, h8⟩ hg
  have hne : ∀ k, k < w.heap.size → ¬ loopMine w (fun b k => k = b) k := by
    rintro k hk (h | h | h) <;> omega
  refine ⟨⟨ns, h1.kept (hg.block sm h1.lt (hne sm hsm)), ⟨pv, (hg.block Bp h2.lt (hne Bp hBp)).trans h2, ownsRow_same h3 ?_, h4⟩, h5, h6⟩, (hg.block Bs h7.lt (hne Bs hBs)).trans h7, hg.below h8 (fun k hk => hne k (by omega)) (Nat.le_trans hb h8.size)⟩
  intro g ho
  refine hg.block g (h3.lt g ho).2 ?_
  rcases h4 g ho with h | h
  · exact hne g h
  · rintro (h' | h' | h') <;> omega

set_option maxRecDepth 100000 in
set_option maxHeartbeats 2000000 in
theorem add_any (base sm Bs Bp Bn b n1 nn : Nat) (Sn Pn Lx : List Nat) (w : World) (hbase : base ≤ w.heap.size) (hsmb : base ≤ sm) (hBsb : base ≤ Bs) (hBpb : base ≤ Bp) (hbb : b < base)
    (hBn : w.cell? ⟨Bn, 0, none⟩ = some (.map (some b))) (hLx : SetV w b nn Lx)
    (hseen : Boxed w Bs 29 (.map (some sm))) (hS : SetV w sm n1 Sn) (hP : Pend w Bp base Pn) (hbd : n1 + Lx.length ≤ 100000) (hbd2 : Pn.length + Lx.length ≤ 100000) :
    Calls Try.prog 53 #[.func (.func 54) #[] #[.pointer (some ⟨Bn, 0, none⟩)], .pointer (some ⟨Bs, 0, none⟩), .pointer (some ⟨Bp, 0, none⟩)] w fun e w' =>
      (∃ v, e = .returned v) ∧ ∃ ns, SetV w' sm (n1 + Lx.length) (Sn ++ ns) ∧ Pend w' Bp base (Pn ++ ns) ∧ (∀ v, v ∈ Sn ++ ns ↔ v ∈ Sn ∨ v ∈ Lx) ∧ Boxed w' Bs 29 (.map (some sm)) ∧ Below base w w' := by
  have hBnl : Bn < w.heap.size := World.block_lt_of_cell? w _ hBn
  have hsml := hS.lt
  have hBsl := hseen.lt
  obtain ⟨pv0, hpv0, hrow0⟩ := hP
  have hBpl := hpv0.lt
  obtain ⟨i0, hi, hz0, hz1, hz2⟩ := info_parts info9
  have hLx4 : ∀ v ∈ Lx, v < 4096 := by
    obtain ⟨_, _, _, _, h, _⟩ := hLx
    exact h
  refine (callsIn_wide (n := 6)).1 ?_
  refine callsIn_of_wp_marks Try.func53 rfl trivial ?_ rfl
  simp only [Try.ntmps53, List.size_toArray, List.length_cons, List.length_nil, Nat.reduceAdd, Nat.reduceSub, Array.replicate_succ, Array.replicate_zero, List.push_toArray, List.append_toArray, List.nil_append, List.cons_append]
  gi_wp2
  refine wpIn_rangeX (gf := 54) (lb := #[.pointer (some ⟨Bn, 0, none⟩)]) rfl (enters_of Try.func54 (by kernel_rfl) rfl)
    (keys_seq 5 (by omega) Bn b nn Lx w hBnl hBn hLx) (fun k e => by subst e; omega) (fun k e => by omega) (fun _ => rfl)
    (AddI w base sm Bs Bp n1 Sn Pn) (addI_abide w base sm Bs Bp n1 Sn Pn hsml hBsl hBpl hbase)
    ⟨⟨[], by simpa using hS, ⟨pv0, hpv0, by simpa using hrow0, fun g hg => .inl (hrow0.lt g hg).2⟩, by simp, by simp⟩, hseen, Below.refl _ _⟩
    (fun x => { tmps := #[.func (.func 54) #[] #[.pointer (some ⟨Bn, 0, none⟩)], .pointer (some ⟨Bs, 0, none⟩), .pointer (some ⟨Bp, 0, none⟩), undef, .string (nm x), undef, undef, .func (.func 54) #[] #[.pointer (some ⟨Bn, 0, none⟩)], .string (nm x), undef, undef, undef, undef, undef, undef, undef, undef, undef, undef, undef, undef, undef, undef, undef], defers := [] }) ?assign ?body ?done
  case assign =>
    intro l x W K hK
    gi_wp2
    exact hK
  case body =>
    rintro l pre x W ⟨⟨ns, ⟨D, hown, hsz, hnd, hlt, hhas, hkl⟩, ⟨pv, hpv, hrow, hloc⟩, hmem, hnl⟩, hse, hbel⟩ hbig hlen hx
    have hcs := hse.cell
    have hcp := hpv.cell
    have hfp := hpv.frozen
    have hz32 : ∀ wx : World, (zeroValue 32).run Try.prog wx = .ok (.agg #[]) wx := fun wx => by kernel_rfl
    have hxlt : x < 4096 := hLx4 x hx
    have hh := hhas x hxlt
    have HK := hide hkl
    have HH := hide hhas
    clear hkl hhas
    by_cases hin : x ∈ Sn ++ ns
    · have hht : Maps.has D (kN x) = true := by rw [hh]; simpa using hin
      clear hh
      gi_wp2_with (first
        | (gi_at_lookup; refine wpListIn_lookup_own_unit _ rfl _ _ 29 rfl 9 32 law9 Try.underlying29 (hz32 _) sm (n1 + pre.length) D rfl hown _ _ rfl (key_nm x) ?_)
        | gi_in)
      refine ⟨KeepX.of_grown (World.grownBy_alloc W _ none) (fun k e => by cases e), ⟨ns, ?_, ⟨pv, hpv.alloc _, hrow.alloc _, hloc⟩, fun v => ?_, by simp; omega⟩, hse.alloc _, hbel.alloc (Nat.le_trans hbase hbel.size) _⟩
      · exact SetV.mono (SetV.kept ⟨D, hown, hsz, hnd, hlt, HH.out, HK.out⟩ (Below.heap_alloc W _ sm hown.lt)) (by simp)
      · rw [hmem v, List.mem_append, List.mem_singleton]
        constructor
        · rintro (h | h)
          · exact .inl h
          · exact .inr (.inl h)
        · rintro (h | h | h)
          · exact .inl h
          · exact .inr h
          · subst h; exact (hmem v).1 hin
    · have hht : Maps.has D (kN x) = false := by rw [hh]; simpa using hin
      clear hh
      have hB : base ≤ W.heap.size := Nat.le_trans hbase hbel.size
      have hnl2 : (Pn ++ ns).length ≤ 100000 := by simp; omega
      have hBsW := hse.lt
      have hBpW := hpv.lt
      have hsmBp : some Bp ≠ some sm := by
        intro e
        cases e
        obtain ⟨es, ck, h1, _⟩ := hown
        rw [show W.heap[sm]? = _ from hpv] at h1
        cases h1
      have hsmBs : some Bs ≠ some sm := by
        intro e
        cases e
        obtain ⟨es, ck, h1, _⟩ := hown
        rw [show W.heap[sm]? = _ from hse] at h1
        cases h1
      have hsmrow : pv.ownBlock ≠ some sm := by
        intro e
        rcases hrow.2 with ⟨rfl, _⟩ | ⟨g, cap, cur, rfl, _, hgb, _⟩
        · cases e
        · cases e
          obtain ⟨es, ck, h1, _⟩ := hown
          rw [hgb] at h1
          cases h1
      gi_wp2_with (first
        | (gi_at_lookup; refine wpListIn_lookup_own_unit _ rfl _ _ 29 rfl 9 32 law9 Try.underlying29 (hz32 _) sm (n1 + pre.length) D rfl hown _ _ rfl (key_nm x) ?_)
        | (gi_at_mapUpdate; refine wpListIn_mapUpdate_own _ rfl _ _ _ 29 rfl 9 32 law9 Try.underlying29 _ sm (n1 + pre.length) _ rfl (hown.alloc _) (by unfold maxLen; omega) _ _ _ rfl rfl (key_nm x) _ [] unitElem_mk ?_; intro w1 hown1 hgrow1; have hpv1 := (hpv.alloc _).kept hgrow1 hsmBp; have hcp1 := hpv1.cell; have hrow1 := (hrow.alloc _).kept hgrow1 (.inr hsmrow); have hz1w := hgrow1.size)
        | (gi_at_builtin; refine wpListIn_append_own_at _ rfl _ _ 37 rfl base 9 i0 (.string ⟨#[]⟩) 1 16 Try.underlying37 hi hz0 hz1 hz2 rfl (by decide) _ _ _ rfl (hrow1.alloc _) ⟨w1.heap.size, 0, none⟩ 1 1 [nmV x] rfl rfl (cell_one_new _ _ _) (by simp [nmV, Value.oneCell']) (by unfold maxLen; omega) (by omega) (by simp at hz1w ⊢; omega) ?_; intro v' w2 hown' hgrow' _ hloc'; obtain ⟨g', cap', rfl⟩ := ownsRow_succ hown'; obtain ⟨hv1, hv2, hr2, hk2, hb2⟩ := hpv1.appended (by decide) hrow1 (by simp at hz1w; omega) hBpb hown' hgrow'; have hc1 := hv1.cell; have hf1 := hv1.frozen)
        | gi_in)
      have hsmW := hown.lt
      simp only [List.length_append] at hv2 hr2 hb2
      have hzA : W.heap.size + 1 ≤ w1.heap.size := by simpa using hz1w
      have hszA : ∀ o : Obj, (w1.alloc o).heap.size = w1.heap.size + 1 := fun o => by simp
      have hszw2 : w1.heap.size + 1 ≤ w2.heap.size := by have := hgrow'.size; rw [hszA] at this; exact this
      have hrowlt : ∀ k, pv.ownBlock = some k → base ≤ k := fun k e => (hrow.lt k e).1
      have hg0 := World.grownBy_alloc W (.cells #[] 32) none
      have hgA := World.grownBy_alloc w1 (.cells #[nmV x] 9) none
      have hgS := grownBy_setCell' w2 Bp (.slice (some ⟨g', 0, none⟩) (Pn.length + ns.length + 1) cap')
      have nk : ∀ k, k < w.heap.size → base ≤ k → ¬ (loopMine w (fun base k => k = base) k ∨ k = b) := by
        rintro k h1 h2 ((h | h | h) | h) <;> omega
      have nkr : ∀ k, pv.ownBlock = some k → ¬ (loopMine w (fun base k => k = base) k ∨ k = b) := by
        intro k hk
        have h1 := hrowlt k hk
        rintro ((h | h | h) | h) <;> rcases hloc k hk with h' | h' <;> omega
      refine ⟨((((KeepX.of_grown hg0 (fun k e => by cases e)).trans (KeepX.of_grown hgrow1 (fun k e => by cases e; exact nk sm hsml hsmb))).trans (KeepX.of_grown hgA (fun k e => by cases e))).trans (KeepX.of_grown hgrow' nkr)).trans (KeepX.of_grown hgS (fun k e => by cases e; exact nk Bp hBpl hBpb)), ⟨ns ++ [x], ?_, ⟨_, hv2, ?_, ?_⟩, ?_, by simp; omega⟩, ?_, ?_⟩
      · have h1 := setV_put hxlt hown hsz hnd hlt HH.out HK.out _ hown1
        have e1 : addV (Sn ++ ns) x = Sn ++ (ns ++ [x]) := by unfold addV; rw [if_neg hin, List.append_assoc]
        rw [e1] at h1
        refine SetV.mono (h1.kept ?_) (by simp; omega)
        rw [hgS.block sm (by omega) (fun e => hsmBp e.symm), hgrow'.block sm (by rw [hszA]; omega) (fun e => hsmrow e.symm)]
        exact hgA.block sm (by omega) (by simp)
      · have e2 : (Pn ++ (ns ++ [x])).length = Pn.length + ns.length + 1 := by simp; omega
        have e3 : (Pn ++ (ns ++ [x])).map nmV = (Pn ++ ns).map nmV ++ [nmV x] := by simp
        rw [e2, e3]
        exact hr2
      · intro g hg
        have hg' : g' = g := by simpa [Value.ownBlock] using hg
        subst hg'
        rcases hloc' with h | h
        · exact hloc g' h.symm
        · right
          have h2 : g' = w1.heap.size + 1 := by simpa [Value.ownBlock] using h
          omega
      · intro v
        rw [← List.append_assoc, List.mem_append, hmem v, List.mem_append]
        simp [or_assoc]
      · refine ((((hse.alloc _).kept hgrow1 hsmBs).alloc _).kept hgrow' ?_).kept hgS ?_
        · exact ((hse.alloc _).kept hgrow1 hsmBs).not_row (by decide) hrow1
        · intro e
          cases e
          have h1 := Eq.trans (Eq.symm hse) hpv
          cases h1
      · exact ((hbel.alloc hB _).grown hgrow1 (by simp; omega) (fun k e => by cases e; exact hsmb)).trans hb2
  case done =>
    rintro D xs W hD hxs hi hK
    gi_wp2
    subst hD
    obtain ⟨⟨ns, hSet, ⟨pv, hpv, hrow, hloc⟩, hmem, hnl⟩, hse, hbel⟩ := addI_abide w base sm Bs Bp n1 Sn Pn hsml hBsl hBpl hbase xs W _ hi (GrownX.of_grown (grownBy_putObj' W w.heap.size (.deferred none)) (fun r e => by cases e; exact .inl rfl))
    refine ⟨by simp, .inl ⟨_, _, rfl, run_takeDeferred hK, ?_⟩⟩
    exact ⟨_, results_none rfl _ _ _, ⟨_, rfl⟩, ns, hSet.mono (by have := hxs.2; omega), ⟨pv, hpv, hrow⟩, fun v => by rw [hmem v, hxs.1 v], hse, hbel⟩
end Go.Proofs.Qxb6609411a
