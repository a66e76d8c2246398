import Derived.Test.Qxb6609411aAll
namespace Go.Proofs.Qxb6609411a
open Go.RowKit Go.Maps Go.WideMaps Go.WideElems Go.Shelf
attribute [local go_sem] Oper.semAt_some

/-- The state of a range over a set of permissions: 'pre' has come. -/
structure LeftP (L pre : List PP) (left : Lit → Bool) : Prop where
  sub : ∀ v ∈ pre, v ∈ L
  nodup : pre.Nodup
  isL : ∀ kl, left kl = true → ∃ v ∈ L, kl = kP v ∧ v ∉ pre
  all : ∀ v ∈ L, v ∉ pre → left (kP v) = true

theorem LeftP.step {L pre : List PP} {left : Lit → Bool} {v : PP} (h : LeftP L pre left) (hok : ∀ u ∈ L, OkP u) (hv : v ∈ L) (hvp : v ∉ pre) : LeftP L (pre ++ [v]) (fun z => left z && !z.sameKey (kP v)) := by
  refine ⟨?_, ?_, ?_, ?_⟩
  · intro u hu
    rcases List.mem_append.1 hu with h1 | h1
    · exact h.sub u h1
    · simp at h1; subst h1; exact hv
  · rw [List.nodup_append]
    refine ⟨h.nodup, by simp, ?_⟩
    intro a ha b' hb' e
    simp at hb'
    subst e hb'
    exact hvp ha
  · intro kl hk
    simp at hk
    obtain ⟨u, hu, e, hup⟩ := h.isL kl hk.1
    refine ⟨u, hu, e, ?_⟩
    intro hmem
    rcases List.mem_append.1 hmem with h1 | h1
    · exact hup h1
    · simp at h1
      subst h1
      rw [e, WideAt.sameKey_self (kP_lit u)] at hk
      cases hk.2
  · intro u hu hun
    have h1 : u ∉ pre := fun h1 => hun (List.mem_append.2 (.inl h1))
    have h2 : u ≠ v := fun h2 => hun (List.mem_append.2 (.inr (by simp [h2])))
    have h3 := h.all u hu h1
    simp [h3, sameKey_ne (fun e => h2 (kP_inj (hok u hu) (hok v hv) e))]

theorem SetP.len_le {w : World} {b n : Nat} {L : List PP} (h : SetP w b n L) : L.length ≤ n := by
  obtain ⟨D, ⟨es, ck, _, _, hle, hD⟩, hs, _⟩ := h
  rw [← hs, hD]
  show ((es.toList.map _).foldr DataW.insert []).length ≤ n
  rw [length_read]
  exact hle

/-- The word between two rounds of heldPermissions. -/
structure HeldI (w : World) (gb Bg c : Nat) (Pe : Nat → List PP) (pre : List Nat) (W : World) : Prop where
  ex : ∃ Lg, SetP W gb (pre.length * c) Lg ∧ ∀ p, p ∈ Lg ↔ ∃ v ∈ pre, p ∈ Pe v
  box : Boxed W Bg 48 (.map (some gb))
  below : Below w.heap.size w W

set_option maxRecDepth 100000 in
set_option maxHeartbeats 2000000 in
theorem held_any (Bn rb N c : Nat) (q pm : Nat → Nat) (Pe : Nat → List PP) (w : World) (hN : N ≤ 4096) (hcc : c ≤ 4096) (hBn : Bn < w.heap.size) (hc : w.cell? ⟨Bn, 0, none⟩ = some (.map (some rb))) (hR : RolesV w rb N N q)
    (hf : ∀ v, v < N → w.cell? ⟨q v, 0, none⟩ = some (.map (some (pm v)))) (hP : ∀ v, v < N → SetP w (pm v) c (Pe v)) :
    Calls Try.prog 48 #[.func (.func 56) #[] #[.pointer (some ⟨Bn, 0, none⟩)]] w fun e w' => ∃ gb Lg nn, e = .returned (.map (some gb)) ∧ w.heap.size ≤ gb ∧ SetP w' gb nn Lg ∧ (∀ p, p ∈ Lg ↔ ∃ v, v < N ∧ p ∈ Pe v) ∧ Below w.heap.size w w' := by
  have hmm := @run_makeMap Try.prog
  refine (callsIn_wide (n := 8)).1 ?_
  refine callsIn_of_wp_marks Try.func48 rfl trivial ?_ rfl
  simp only [Try.ntmps48, List.size_toArray, List.length_cons, List.length_nil, Nat.reduceAdd, Nat.reduceSub, Array.replicate_succ, Array.replicate_zero, List.push_toArray, List.append_toArray, List.nil_append, List.cons_append]
  gi_wp2_with fail
  have hS : SetP ((w.alloc (.map #[] 0)).alloc (.cells #[.map (some w.heap.size)] 48)) w.heap.size 0 [] := (setP_made w).kept (Below.heap_alloc _ _ _ (by simp))
  have hB : Boxed ((w.alloc (.map #[] 0)).alloc (.cells #[.map (some w.heap.size)] 48)) (w.heap.size + 1) 48 (.map (some w.heap.size)) := by
    have h1 := Boxed.new (w.alloc (.map #[] 0)) 48 (.map (some w.heap.size))
    simp only [World.size_alloc] at h1
    exact h1
  have hb : Below w.heap.size w ((w.alloc (.map #[] 0)).alloc (.cells #[.map (some w.heap.size)] 48)) := ((Below.refl _ w).alloc (Nat.le_refl _) _).alloc (by simp) _
  have hz : ((w.alloc (.map #[] 0)).alloc (.cells #[.map (some w.heap.size)] 48)).heap.size = w.heap.size + 2 := by simp
  generalize ((w.alloc (.map #[] 0)).alloc (.cells #[.map (some w.heap.size)] 48)) = W0 at *
  have hrb := hR.lt
  have hseq := all_seq 7 (by omega) Bn rb N q W0 hN (by omega) ((hb.cell (p := ⟨Bn, 0, none⟩) hBn).trans hc) (hR.kept (hb.block _ hrb))
  have hab : Abide (loopMine W0 (fun base k => k = base)) (HeldI w w.heap.size (w.heap.size + 1) c Pe) := by
    rintro pre A A' ⟨⟨Lg, h1, h2⟩, h3, h4⟩ hg
    have hne : ∀ k, k < w.heap.size + 2 → ¬ loopMine W0 (fun base k => k = base) k := by
      rintro k hk (h | h | h) <;> omega
    exact ⟨⟨Lg, h1.kept (hg.block _ h1.lt (hne _ (by omega))), h2⟩, (hg.block _ h3.lt (hne _ (by omega))).trans h3, hg.below h4 (fun k hk => hne k (by omega)) h4.size⟩
  refine wpIn_rangeX (gf := 56) (lb := #[.pointer (some ⟨Bn, 0, none⟩)]) rfl (enters_of Try.func56 (by kernel_rfl) rfl)
    hseq (fun k e => by subst e; omega) (fun k e => by omega) (fun _ => rfl)
    (HeldI w w.heap.size (w.heap.size + 1) c Pe) hab ⟨⟨[], by simpa using hS, fun p => by simp⟩, hB, hb⟩
    (fun x => { tmps := #[.func (.func 56) #[] #[.pointer (some ⟨Bn, 0, none⟩)], undef, .map none, .pointer (some ⟨w.heap.size + 1, 0, none⟩), undef, .pointer (some ⟨q x, 0, none⟩), undef, .map (some w.heap.size), .func (.func 56) #[] #[.pointer (some ⟨Bn, 0, none⟩)], .string (nm x), .pointer (some ⟨q x, 0, none⟩), undef, undef, undef, undef, undef, undef, undef, undef, undef, undef, undef, undef, undef], defers := [] }) ?assign ?body ?done
  case assign =>
    intro l x W K hK
    gi_wp2
    exact hK
  case body =>
    rintro l pre x W ⟨⟨Lg, hSg, hmem⟩, hbox, hbel⟩ hbig hlen hx
    have hfx : W.cell? ⟨q x, 0, none⟩ = some (.map (some (pm x))) := (hbel.cell (p := ⟨q x, 0, none⟩) (World.block_lt_of_cell? w _ (hf x hx))).trans (hf x hx)
    have hpl := (hP x hx).lt
    have hSp := (hP x hx).kept (hbel.block _ hpl)
    have hPl := hSp.len_le
    obtain ⟨Dp, hownp, hszp, hndp, hokp, hhasp, hklp⟩ := hSp
    have hbz := hbel.size
    have HHP := hide hhasp
    have HKP := hide hklp
    have HSG := hide hSg
    have HMEM := hide hmem
    clear hhasp hklp hSg hmem hf hP
    have hmul : pre.length * c ≤ 4096 * 4096 := Nat.mul_le_mul (by omega) hcc
    gi_wp2_with (first
      | (gi_at_range; refine wpListIn_range_own _ rfl _ 48 rfl 45 32 law45 Try.underlying48 _ (pm x) c _ rfl hownp ?_; intro w0 hrg0 hg0 hs0)
      | gi_in)
    try go_frame
    gi_loopw [6] (fun _ wr => ∃ (left : Lit → Bool) (cnt : Nat) (pre2 Lg2 : List PP), wr.ranges Try.prog 45 (unitElem (H := Unit)) (pm x) W.heap.size c Dp left cnt ∧ LeftP (Pe x) pre2 left ∧ pre2.length + cnt ≤ (Pe x).length ∧ SetP wr w.heap.size (pre.length * c + pre2.length) Lg2 ∧ (∀ p, p ∈ Lg2 ↔ p ∈ Lg ∨ p ∈ pre2) ∧ Boxed wr (w.heap.size + 1) 48 (.map (some w.heap.size)) ∧ GrownX (fun k => k = w.heap.size) W wr)
      (fun _ wr => wr.rangeLeft (pm x) W.heap.size)
    case atStart =>
      refine ⟨_, _, [], Lg, hrg0, ⟨by simp, List.nodup_nil, fun kl h => ?_, fun v hv _ => ?_⟩, by simp; omega, ?_, fun p => by simp, hbox.kept hg0 (by simp), GrownX.of_grown hg0 (fun r e => by cases e)⟩
      · obtain ⟨v, hv, e⟩ := HKP.out kl h
        exact ⟨v, hv, e, by simp⟩
      · rw [HHP.out v (hokp v hv)]; simp [hv]
      · exact HSG.out.kept (hg0.block _ HSG.out.lt (by simp))
    case round =>
      obtain ⟨left, cnt, pre2, Lg2, hrg, hLV, hcnt, hS2, hmem2, hbox2, hgr⟩ := hrel
      have HS2 := hide hS2
      have HM2 := hide hmem2
      have HGR := hide hgr
      have HB2 := hide hbox2
      clear hS2 hmem2 hgr hbox2
      gi_wp2_with (first
        | (gi_at_next; refine wpListIn_next_ranges _ rfl _ rfl 45 law45 (unitElem (H := Unit)) (fun p : PP => Value.agg #[.string p.a, .string p.b]) (fun _ : Unit => Value.agg #[]) (fun key kl hk => by obtain ⟨p, hp, _⟩ := pV_of_key hk; exact ⟨p, hp⟩) (fun v y hv => by obtain ⟨rfl, _⟩ := unitElem_inv hv; exact ⟨(), rfl⟩) (pm x) W.heap.size c _ _ _ rfl hrg ?_ ?_)
        | gi_in)
      · intro hc0 hl0
        gi_wp2
        have hall : ∀ p, p ∈ pre2 ↔ p ∈ Pe x := fun p => ⟨hLV.sub p, fun hp => by
          rcases Decidable.em (p ∈ pre2) with h | h
          · exact h
          · have := hLV.all p hp h
            rw [hl0] at this
            cases this⟩
        have hgs := HGR.out.size
        refine ⟨⟨hgs, fun k hk ho => HGR.out.block k hk (fun e => ?_)⟩, ⟨Lg2, HS2.out.mono ?_, fun p => ?_⟩, HB2.out, HGR.out.below hbel (fun k hk e => by omega) hbz⟩
        · rcases ho with (h | h | h) | h <;> omega
        · rw [List.length_append, List.length_singleton, Nat.succ_mul]
          omega
        · rw [HM2.out p, HMEM.out p, hall p]
          constructor
          · rintro (⟨v, h1, h2⟩ | h)
            · exact ⟨v, List.mem_append.2 (.inl h1), h2⟩
            · exact ⟨x, List.mem_append.2 (.inr (by simp)), h⟩
          · rintro ⟨v, h1, h2⟩
            rcases List.mem_append.1 h1 with h | h
            · exact .inl ⟨v, h, h2⟩
            · simp at h
              subst h
              exact .inr h2
      · intros
        rename_i p kl yd yp w2 cnt2 hkey hlk hv hat hrg2 hlt2 hg2 hs2 hen
        obtain ⟨v, hvL, rfl, hvp⟩ := hLV.isL kl hlk
        have hpv : p = v := pV_inj (law45.inj hkey (key_pV (hokp v hvL)))
        subst hpv
        have hzw2 : w2.heap.size = wr.heap.size := by assumption
        have hrlt : W.heap.size < wr.heap.size := hrg.lt
        have hS3 := HS2.out.kept (hg2.block _ HS2.out.lt (fun e => by rw [Option.some.injEq] at e; omega))
        have hB3 := HB2.out.kept hg2 (by intro e; rw [Option.some.injEq] at e; omega)
        have hgr3 : GrownX (fun k => k = w.heap.size) W w2 := ⟨hg2.os.trans HGR.out.os, hg2.tape.trans HGR.out.tape, hg2.output.trans HGR.out.output, Nat.le_trans HGR.out.size hg2.size, fun k hk hm =>
          (hg2.block k (Nat.lt_of_lt_of_le hk HGR.out.size) (fun e => by rw [Option.some.injEq] at e; omega)).trans (HGR.out.block k hk hm)⟩
        have hcb := hB3.cell
        obtain ⟨D3, hown3, hsz3, hnd3, hok3, hhas3, hkl3⟩ := hS3
        have hownA : ∀ o, (w2.alloc o).ownsMap Try.prog 45 (unitElem (H := Unit)) w.heap.size (pre.length * c + pre2.length) D3 := fun o => by
          obtain ⟨es, ck, h1, h2⟩ := hown3
          exact ⟨es, ck, (Below.heap_alloc _ _ _ (Array.getElem?_eq_some_iff.1 h1).1).trans h1, h2⟩
        have HH3 := hide hhas3
        have HK3 := hide hkl3
        have HGR3 := hide hgr3
        have HB3 := hide hB3
        have HO3 := hide hown3
        have hbne : ¬ (w.heap.size + 1 = w2.heap.size) := by omega
        have hblt : w.heap.size + 1 < w2.heap.size := by omega
        have hcbA : ∀ o, (w2.alloc o).cell? ⟨w.heap.size + 1, 0, none⟩ = some (.map (some w.heap.size)) := fun o => (hB3.alloc o).cell
        have HZ2 := hide hzw2
        clear hat hv hhas3 hkl3 hgr3 hB3 hown3 hs2 hzw2
        have hokx := hokp p hvL
        gi_wp2_with (first
          | (gi_at_mapUpdate; refine wpListIn_mapUpdate_own _ rfl _ _ _ 48 rfl 45 32 law45 Try.underlying48 _ w.heap.size (pre.length * c + pre2.length) _ rfl (hownA _) (by unfold maxLen; omega) _ _ _ rfl rfl (key_pV hokx) _ [] unitElem_mk ?_; intro w4 hown4 hgrow4)
          | gi_in)
        have hzA : (w2.alloc (.cells #[.string p.a, .string p.b] 45)).heap.size = w2.heap.size + 1 := by simp
        have hz2 := HZ2.out
        have hrl2 : pm x < w2.heap.size := by omega
        have hbk : ∀ k, k < w2.heap.size → k ≠ w.heap.size → w4.heap[k]? = w2.heap[k]? := fun k hk hn =>
          (hgrow4.block k (by omega) (fun e => hn (by cases e; rfl))).trans (Below.heap_alloc _ _ _ hk)
        have hrg3 := ranges_same hrg2 (hbk (pm x) hrl2 (by omega)) (hbk W.heap.size (by omega) (by omega))
        go_roundw
        case rel =>
          refine ⟨_, _, _, _, _, _, _, _, ⟨_, cnt2, pre2 ++ [p], addP Lg2 p, hrg3, hLV.step hokp hvL hvp, by simp; omega, ?_, fun u => ?_, ?_, ?_⟩, rfl⟩
          · have h1 := setP_put hokx (hownA (.cells #[] 0)) hsz3 hnd3 hok3 HH3.out HK3.out _ hown4
            rw [List.length_append, List.length_singleton, ← Nat.add_assoc]
            exact h1
          · rw [mem_addP, HM2.out u, List.mem_append, List.mem_singleton, or_assoc]
          · exact (hbk _ (by omega) (by omega)).trans HB3.out
          · exact ⟨hgrow4.os.trans HGR3.out.os, hgrow4.tape.trans HGR3.out.tape, hgrow4.output.trans HGR3.out.output, by have := HGR3.out.size; have := hgrow4.size; omega, fun k hk hm =>
              (hbk k (by have := HGR3.out.size; omega) hm).trans (HGR3.out.block k hk hm)⟩
        case measure => rw [hrg3.left_eq, hrg.left_eq]; exact hlt2
  case done =>
    rintro D xs W hD hxs hi hK
    have hcb := hi.box.cell
    gi_wp2
    subst hD
    obtain ⟨⟨Lg, hSet, hmem⟩, hbox, hbel⟩ := hab xs W _ hi (GrownX.of_grown (grownBy_putObj' W W0.heap.size (.deferred none)) (fun r e => by cases e; exact .inl rfl))
    refine ⟨by simp, .inl ⟨_, _, rfl, run_takeDeferred hK, ?_⟩⟩
    exact ⟨_, results_tmp rfl _ _ _, _, Lg, _, rfl, Nat.le_refl _, hSet, fun p => by rw [hmem p]; exact ⟨fun ⟨v, h1, h2⟩ => ⟨v, (hxs v).1 h1, h2⟩, fun ⟨v, h1, h2⟩ => ⟨v, (hxs v).2 h1, h2⟩⟩, hbel⟩

theorem heldAll_any (pb rb N c : Nat) (q pm : Nat → Nat) (Pe : Nat → List PP) (w : World) (hN : N ≤ 4096) (hcc : c ≤ 4096) (hc : w.cell? ⟨pb, 1, none⟩ = some (.map (some rb))) (hR : RolesV w rb N N q)
    (hf : ∀ v, v < N → w.cell? ⟨q v, 0, none⟩ = some (.map (some (pm v)))) (hP : ∀ v, v < N → SetP w (pm v) c (Pe v)) :
    Calls Try.prog 33 #[.pointer (some ⟨pb, 0, none⟩)] w fun e w' => ∃ gb Lg nn, e = .returned (.map (some gb)) ∧ SetP w' gb nn Lg ∧ (∀ p, p ∈ Lg ↔ ∃ v, v < N ∧ p ∈ Pe v) ∧ Below w.heap.size w w' := by
  have HF := hide hf
  have HP := hide hP
  clear hf hP
  go_enter Try.func33, Try.ntmps33
  go_wp2_with fail
  refine (all_any (some rb) w).mono ?_
  rintro e _ ⟨rfl, rfl⟩
  have hb : Below w.heap.size w (w.alloc (.cells #[.map (some rb)] 71)) := (Below.refl _ w).alloc (Nat.le_refl _) _
  have hz : (w.alloc (.cells #[.map (some rb)] 71)).heap.size = w.heap.size + 1 := by simp
  have hca : (w.alloc (.cells #[.map (some rb)] 71)).cell? ⟨w.heap.size, 0, none⟩ = some (.map (some rb)) := by simp [go_sem]
  have HB := hide hb
  have HZ := hide hz
  have HCA := hide hca
  clear hb hz hca
  go_wp2_with fail
  refine (held_any w.heap.size rb N c q pm Pe _ hN hcc (by rw [HZ.out]; omega) HCA.out (hR.kept (HB.out.block _ hR.lt)) (fun v hv => (HB.out.cell (p := ⟨q v, 0, none⟩) (World.block_lt_of_cell? w _ (HF.out v hv))).trans (HF.out v hv)) (fun v hv => (HP.out v hv).kept (HB.out.block _ (HP.out v hv).lt))).mono ?_
  rintro e w2 ⟨gb, Lg, nn, rfl, _, hS, hL, hB2⟩
  have HS := hide hS
  have HL := hide hL
  have HB2 := hide (HB.out.trans (hB2.mono (by rw [HZ.out]; omega)))
  clear hS hL hB2
  go_wp2_with fail
  go_ret
  exact ⟨gb, Lg, nn, rfl, HS.out, HL.out, HB2.out⟩
end Go.Proofs.Qxb6609411a
