import Derived.Test.Qxb6609411aReach1
namespace Go.Proofs.Qxb6609411a
open Go.RowKit Go.Maps Go.WideMaps Go.WideElems Go.Shelf
attribute [local go_sem] Oper.semAt_some

theorem juniors_any (q nb : Nat) (w : World) (h : w.cell? ⟨q, 2, none⟩ = some (.map (some nb))) : Calls Try.prog 46 #[.pointer (some ⟨q, 0, none⟩)] w fun e w' => e = .returned (.map (some nb)) ∧ w = w' := by
  go_enter Try.func46, Try.ntmps46
  go_wp2
  go_ret
  exact ⟨rfl, rfl⟩

set_option maxRecDepth 100000 in
set_option maxHeartbeats 2000000 in
theorem reach1_juniors (n : Nat) (Bf Bpp Bnx Bm fb nf pb rb N nr : Nat) (q nb : Nat → Nat) (nxt : Nat → List Nat) (Lf : List Nat) (pr : Nat → Prop) (w : World) (hN : N ≤ 4096)
    (hPW : PolW w Bpp pb rb 2 N nr q nb nxt) (hPP : PolPr pr Bpp pb rb N q nb) (hprn : pr Bnx)
    (cf : w.cell? ⟨Bf, 0, none⟩ = some (.func (.func 54) #[] #[.pointer (some ⟨Bm, 0, none⟩)])) (cm : w.cell? ⟨Bm, 0, none⟩ = some (.map (some fb))) (hLf : SetV w fb nf Lf) (hLfN : ∀ v ∈ Lf, v < N)
    (cn : w.cell? ⟨Bnx, 0, none⟩ = some (.func (.func 46) #[] #[])) :
    SeqX n Try.prog 52 #[.pointer (some ⟨Bf, 0, none⟩), .pointer (some ⟨Bpp, 0, none⟩), .pointer (some ⟨Bnx, 0, none⟩)] (fun v : Nat => #[Value.string (nm v), .pointer (some ⟨q v, 0, none⟩)]) (fun v => v < N) (fun base k => base ≤ k) pr (fun xs => ∀ v, v ∈ xs ↔ Rch Lf nxt v) N w := by
  intro l J W hW hJ hY h0
  have lt1 : Bpp < w.heap.size := World.block_lt_of_cell? w _ hPW.cp
  have lt2 : pb < w.heap.size := World.block_lt_of_cell? w _ hPW.cr
  have lt3 : rb < w.heap.size := hPW.roles.lt
  have lt4 : ∀ v, v < N → q v < w.heap.size := fun v hv => World.block_lt_of_cell? w _ (hPW.fields v hv)
  have lt5 : ∀ v, v < N → nb v < w.heap.size := fun v hv => (hPW.sets v hv).lt
  have ltn : Bnx < w.heap.size := World.block_lt_of_cell? w _ cn
  have hP0 : PolW W Bpp pb rb 2 N nr q nb nxt := hPW.kept (hW.block _ lt1) (hW.block _ lt2) (hW.block _ lt3) (fun v hv => hW.block _ (lt4 v hv)) (fun v hv => hW.block _ (lt5 v hv))
  have cf0 : W.cell? ⟨Bf, 0, none⟩ = _ := (hW.cell (p := ⟨Bf, 0, none⟩) (World.block_lt_of_cell? w _ cf)).trans cf
  have cm0 : W.cell? ⟨Bm, 0, none⟩ = _ := (hW.cell (p := ⟨Bm, 0, none⟩) (World.block_lt_of_cell? w _ cm)).trans cm
  have cn0 : W.cell? ⟨Bnx, 0, none⟩ = _ := (hW.cell (p := ⟨Bnx, 0, none⟩) ltn).trans cn
  have hLf0 : SetV W fb nf Lf := hLf.kept (hW.block _ hLf.lt)
  have hwW := hW.size
  have hmm := @run_makeMap Try.prog
  refine callsIn_of_wp Try.func52 rfl trivial ?_ rfl
  simp only [Try.ntmps52, List.size_toArray, List.length_cons, List.length_nil, Nat.reduceAdd, Nat.reduceSub, Array.replicate_succ, Array.replicate_zero, List.push_toArray, List.append_toArray, List.nil_append, List.cons_append]
  have hBfW : Bf < W.heap.size := World.block_lt_of_cell? W _ cf0
  have hfbW := hLf0.lt
  have cf3 : ∀ o1 o2 o3 : Obj, (((W.alloc o1).alloc o2).alloc o3).cell? ⟨Bf, 0, none⟩ = some (.func (.func 54) #[] #[.pointer (some ⟨Bm, 0, none⟩)]) := fun o1 o2 o3 =>
    ((((((Below.refl W.heap.size W).alloc (Nat.le_refl _) o1).alloc (by simp) o2).alloc (by simp; omega) o3)).cell (p := ⟨Bf, 0, none⟩) hBfW).trans cf0
  gi_wp2_with fail
  have sS : SetV (((W.alloc (.map #[] 0)).alloc (.cells #[.map (some W.heap.size)] 29)).alloc (.cells #[.slice none 0 0] 37)) W.heap.size 0 [] :=
    ((setV_made W).kept (Below.heap_alloc _ _ _ (by simp))).kept (Below.heap_alloc _ _ _ (by simp; omega))
  have bS : Boxed (((W.alloc (.map #[] 0)).alloc (.cells #[.map (some W.heap.size)] 29)).alloc (.cells #[.slice none 0 0] 37)) (W.heap.size + 1) 29 (.map (some W.heap.size)) := by
    have := (Boxed.new (W.alloc (.map #[] 0)) 29 (.map (some W.heap.size))).alloc (.cells #[.slice none 0 0] 37)
    simpa using this
  have bP : Pend (((W.alloc (.map #[] 0)).alloc (.cells #[.map (some W.heap.size)] 29)).alloc (.cells #[.slice none 0 0] 37)) (W.heap.size + 1 + 1) W.heap.size [] := by
    have := Boxed.new ((W.alloc (.map #[] 0)).alloc (.cells #[.map (some W.heap.size)] 29)) 37 (.slice none 0 0)
    exact ⟨_, by simpa using this, World.ownsRow_nil _ _ _ _⟩
  have hb3 : Below W.heap.size W (((W.alloc (.map #[] 0)).alloc (.cells #[.map (some W.heap.size)] 29)).alloc (.cells #[.slice none 0 0] 37)) := (((Below.refl _ W).alloc (Nat.le_refl _) _).alloc (by simp) _).alloc (by simp; omega) _
  generalize (((W.alloc (.map #[] 0)).alloc (.cells #[.map (some W.heap.size)] 29)).alloc (.cells #[.slice none 0 0] 37)) = W3 at *
  have hLfl := hLf0.len_le
  refine ⟨trivial, (fun h => by cases h), ?_⟩
  refine (callsIn_wide.2 (add_any W.heap.size W.heap.size (W.heap.size + 1) (W.heap.size + 1 + 1) Bm fb 0 nf [] [] Lf W3 hb3.size (Nat.le_refl _) (by omega) (by omega) hfbW ((hb3.cell (p := ⟨Bm, 0, none⟩) (World.block_lt_of_cell? W _ cm0)).trans cm0) (hLf0.kept (hb3.block _ hfbW)) bS sS bP (by omega) (by simp; omega))).mono ?_
  rintro e W4 ⟨⟨ve, rfl⟩, ns, hset, hpend, hmem, hbox, hb4⟩
  have hB4 : Below W.heap.size W W4 := hb3.trans hb4
  have hJ4 : J [] W4 := hJ _ _ _ h0 (GrownX.of_below hB4 (fun k hk => by omega))
  have hz4 : W.heap.size + 2 < W4.heap.size := by have := hpend; obtain ⟨pv, h1, _⟩ := this; have := h1.lt; omega
  have hP4 : PolW W4 Bpp pb rb 2 N nr q nb nxt := hP0.kept (hB4.block _ (by omega)) (hB4.block _ (by omega)) (hB4.block _ (by omega)) (fun v hv => hB4.block _ (by have := lt4 v hv; omega)) (fun v hv => hB4.block _ (by have := lt5 v hv; omega))
  have cn4 : W4.cell? ⟨Bnx, 0, none⟩ = _ := (hB4.cell (p := ⟨Bnx, 0, none⟩) (show Bnx < _ by omega)).trans cn0
  have hRI : RI W.heap.size W.heap.size (W.heap.size + 1) (W.heap.size + 1 + 1) Lf nxt N [] ns ns W4 := by
    simp only [List.nil_append, List.not_mem_nil, false_or] at hset hpend hmem
    exact ⟨hset.tight, hpend, hbox, fun v => by simp, by simp, fun v hv => hLfN v ((hmem v).1 hv), fun v hv => (hmem v).2 hv, fun v hv => by simp at hv, fun v hv C h1 _ => h1 v ((hmem v).1 hv)⟩
  clear hset hpend hmem hbox hb3 hb4 hB4 sS bS bP cf3 cf0 cm0 hLf0 hmm h0
  gi_wp2_with fail
  gi_loopw [8] (fun _ wr => ∃ (pre Sn Pn : List Nat), RI W.heap.size W.heap.size (W.heap.size + 1) (W.heap.size + 1 + 1) Lf nxt N pre Sn Pn wr ∧ J pre wr ∧ PolW wr Bpp pb rb 2 N nr q nb nxt ∧ wr.cell? ⟨Bnx, 0, none⟩ = some (.func (.func 46) #[] #[]) ∧ W.heap.size + 2 < wr.heap.size)
    (fun _ wr => N - doneW W.heap.size (W.heap.size + 1 + 1) wr)
  case atStart => exact ⟨[], ns, ns, hRI, hJ4, hP4, cn4, hz4⟩
  case round =>
    clear hRI hJ4 hP4 cn4 hz4
    obtain ⟨pre, Sn, Pn, hR, hJs, hPs, cns, hzs⟩ := hrel
    have HR := hide hR
    have HJ := hide hJs
    have HP := hide hPs
    clear hR hJs hPs
    obtain ⟨pv, hpv, hrow⟩ := HR.out.pend
    have hcp := hpv.cell
    have hfp := hpv.frozen
    rcases List.eq_nil_or_concat Pn with hnil | ⟨Pl, v, hPn⟩
    · subst hnil
      have hex : ∃ a c, pv = .slice a 0 c := by
        rcases hrow.2 with ⟨rfl, _⟩ | ⟨g, cap, cur, rfl, _⟩
        · exact ⟨_, _, rfl⟩
        · exact ⟨_, _, rfl⟩
      obtain ⟨pa, pc, hpe⟩ := hex
      rw [hpe] at hcp
      gi_wp2
      go_end0
      have hm : ∀ u, u ∈ Sn ↔ u ∈ pre := fun u => by rw [HR.out.mem u]; simp
      refine ⟨⟨_, rfl⟩, pre, fun u => ⟨fun hu => HR.out.sound u ((hm u).2 hu), fun hu => ?_⟩, HJ.out⟩
      refine hu (fun x => x ∈ pre) (fun x hx => (hm x).1 (HR.out.start x hx)) (fun x hx y hy => (hm y).1 (HR.out.next x hx y hy))
    · rw [List.concat_eq_append] at hPn
      subst hPn
      have hvS : v ∈ Sn := (HR.out.mem v).2 (.inr (by simp))
      have hvN : v < N := HR.out.lt v hvS
      have hSle : Sn.length ≤ N := by
        obtain ⟨_, _, _, h1, _⟩ := HR.out.set
        exact nodup_le N Sn h1 HR.out.lt
      have hpl : pre.length + (Pl.length + 1) = Sn.length := by have := HR.out.len; simpa using this
      have el : (Pl ++ [v]).length = Pl.length + 1 := by simp
      have em : (Pl ++ [v]).map nmV = Pl.map nmV ++ [nmV v] := by simp
      rw [el, em] at hrow
      obtain ⟨g, cap, hge⟩ := ownsRow_succ hrow
      subst hge
      have hcap : Pl.length + 1 ≤ cap ∧ cap ≤ maxLen := by
        rcases hrow.2 with ⟨h, _⟩ | ⟨g', cap', cur, h, _, _, h1, h2, _⟩
        · cases h
        · cases h; exact ⟨h1, h2⟩
      obtain ⟨hcap1, hcap2⟩ := hcap
      unfold maxLen at hcap2
      have hcg : wr.cell? ⟨g, Pl.length, none⟩ = some (.string (nm v)) := by
        rw [World.ownsRow.cellAt hrow Pl.length (by omega)]
        simp [nmV]
      have hgne : some (W.heap.size + 1 + 1) ≠ some g := hpv.not_row (by decide) hrow
      have hgS := grownBy_setCell' wr (W.heap.size + 1 + 1) (.slice (some ⟨g, 0, none⟩) Pl.length cap)
      have hrow1 := ownsRow_same (ownsRow_pop (n := Pl.length) (by simp) hrow) (w' := wr.setCell ⟨W.heap.size + 1 + 1, 0, none⟩ (.slice (some ⟨g, 0, none⟩) Pl.length cap)) (fun g' hg' => hgS.block g' (hrow.lt g' hg').2 (fun e => hgne (by rw [← e, ← hg']; rfl)))
      have hpv1 := hpv.set (.slice (some ⟨g, 0, none⟩) Pl.length cap)
      have hJ1 := hJ _ _ _ HJ.out (GrownX.of_grown (mine := fun k => W.heap.size ≤ k) hgS (fun r e => by cases e; omega))
      have hP1 : PolW (wr.setCell ⟨W.heap.size + 1 + 1, 0, none⟩ (.slice (some ⟨g, 0, none⟩) Pl.length cap)) Bpp pb rb 2 N nr q nb nxt :=
        HP.out.kept (hgS.block _ (by omega) (by intro e; cases e; omega)) (hgS.block _ (by omega) (by intro e; cases e; omega)) (hgS.block _ (by omega) (by intro e; cases e; omega)) (fun u hu => hgS.block _ (by have := lt4 u hu; omega) (by have := lt4 u hu; intro e; rw [Option.some.injEq] at e; omega)) (fun u hu => hgS.block _ (by have := lt5 u hu; omega) (by have := lt5 u hu; intro e; rw [Option.some.injEq] at e; omega))
      have hz1 : W.heap.size + 2 < (wr.setCell ⟨W.heap.size + 1 + 1, 0, none⟩ (.slice (some ⟨g, 0, none⟩) Pl.length cap)).heap.size := Nat.lt_of_lt_of_le hzs hgS.size
      have cn1 : (wr.setCell ⟨W.heap.size + 1 + 1, 0, none⟩ (.slice (some ⟨g, 0, none⟩) Pl.length cap)).cell? ⟨Bnx, 0, none⟩ = _ := (World.cell?_of_block (w := wr) (a := ⟨Bnx, 0, none⟩) (hgS.block Bnx (by omega) (by intro e; cases e; omega))).trans cns
      have hS1 : SetV (wr.setCell ⟨W.heap.size + 1 + 1, 0, none⟩ (.slice (some ⟨g, 0, none⟩) Pl.length cap)) W.heap.size Sn.length Sn := HR.out.set.kept (hgS.block _ (by omega) (by intro e; rw [Option.some.injEq] at e; omega))
      have hb1 : Boxed (wr.setCell ⟨W.heap.size + 1 + 1, 0, none⟩ (.slice (some ⟨g, 0, none⟩) Pl.length cap)) (W.heap.size + 1) 29 (.map (some W.heap.size)) := HR.out.seen.kept hgS (by intro e; rw [Option.some.injEq] at e; omega)
      obtain ⟨fn, tmps, assign, body, hy, hRnd⟩ := hY pre v _ hJ1 (by omega) hvN (by omega)
      have hlook := hP1.roles.look hvN
      have cp1 := hP1.cp
      have cr1 := hP1.cr
      clear hgS hgne
      have HP1 := hide hP1
      have HJ1 := hide hJ1
      have HS1 := hide hS1
      have HB1 := hide hb1
      have HR1 := hide hrow1
      have HV1 := hide hpv1
      clear hP1 hJ1 hS1 hb1 hrow1 hpv1 HP HJ
      gi_wp2_with fail
      refine ⟨(fun h => by cases h), ?_⟩
      refine hRnd.mono ?_
      rintro e W5 ⟨rfl, hJ5, hk5⟩
      have hz5 := hk5.size
      have hg1 : g < (wr.setCell ⟨W.heap.size + 1 + 1, 0, none⟩ (.slice (some ⟨g, 0, none⟩) Pl.length cap)).heap.size := (HR1.out.lt g rfl).2
      have hgb : W.heap.size ≤ g := (HR1.out.lt g rfl).1
      have hP5 : PolW W5 Bpp pb rb 2 N nr q nb nxt := HP1.out.kept (hk5.same _ (by omega) (.inr hPP.a1)) (hk5.same _ (by omega) (.inr hPP.a2)) (hk5.same _ (by omega) (.inr hPP.a3)) (fun u hu => hk5.same _ (by have := lt4 u hu; omega) (.inr (hPP.a4 u hu))) (fun u hu => hk5.same _ (by have := lt5 u hu; omega) (.inr (hPP.a5 u hu)))
      have cn5 : W5.cell? ⟨Bnx, 0, none⟩ = _ := (World.cell?_of_block (a := ⟨Bnx, 0, none⟩) (hk5.same Bnx (by omega) (.inr hprn))).trans cn1
      have hS5 : SetV W5 W.heap.size Sn.length Sn := HS1.out.kept (hk5.same _ (by omega) (.inl (Nat.le_refl _)))
      have hb5 : Boxed W5 (W.heap.size + 1) 29 (.map (some W.heap.size)) := (hk5.same _ (by omega) (.inl (by omega))).trans HB1.out
      have hv5 : Boxed W5 (W.heap.size + 1 + 1) 37 (.slice (some ⟨g, 0, none⟩) Pl.length cap) := (hk5.same _ (by omega) (.inl (by omega))).trans HV1.out
      have hr5 : W5.ownsRow W.heap.size 9 1 (.slice (some ⟨g, 0, none⟩) Pl.length cap) Pl.length (Pl.map nmV) := ownsRow_same HR1.out (fun g' hg' => by cases hg'; exact hk5.same g hg1 (.inl hgb))
      have HS5 := hide hS5
      have HB5 := hide hb5
      have HV5 := hide hv5
      have HR5 := hide hr5
      have HP5 := hide hP5
      have cnv := hP5.fields v hvN
      clear hS5 hb5 hv5 hr5 hP5 HS1 HB1 HV1 HR1 HP1 HJ1 hlook cp1 cr1 hcp hfp hcg hy
      gi_wp2_with fail
      refine ⟨trivial, (fun h => by cases h), ?_⟩
      refine (callsIn_wide.2 (juniors_any (q v) (nb v) W5 cnv)).mono ?_
      rintro e W6 ⟨rfl, rfl⟩
      gi_wp2_with fail
      refine ⟨trivial, (fun h => by cases h), ?_⟩
      refine (callsIn_wide.2 (keys_any (some (nb v)) W5)).mono ?_
      rintro e W6 ⟨rfl, rfl⟩
      gi_wp2_with fail
      refine ⟨trivial, (fun h => by cases h), ?_⟩
      have hg6 := World.grownBy_alloc W5 (.cells #[.map (some (nb v))] 29) none
      have hnbv : nb v < W5.heap.size := by have := lt5 v hvN; omega
      have hnxl := (HP5.out.sets v hvN).len_le
      refine (callsIn_wide.2 (add_any W.heap.size W.heap.size (W.heap.size + 1) (W.heap.size + 1 + 1) W5.heap.size (nb v) Sn.length 4096 Sn Pl (nxt v) (W5.alloc (.cells #[.map (some (nb v))] 29)) (by simp; omega) (Nat.le_refl _) (by omega) (by omega) (by have := lt5 v hvN; omega) (by simp [go_sem]) ((HP5.out.sets v hvN).kept (hg6.block _ hnbv (by simp))) (HB5.out.alloc _) (HS5.out.kept (hg6.block _ (by omega) (by simp))) ⟨_, HV5.out.alloc _, HR5.out.alloc _⟩ (by omega) (by omega))).mono ?_
      rintro e W7 ⟨⟨ve, rfl⟩, ns, hset, hpend, hmem, hbox, hb7⟩
      have hB7 : Below W.heap.size W5 W7 := ((Below.refl _ W5).alloc (by omega) _).trans hb7
      have hz7 := hB7.size
      gi_wp2_with fail
      have hP7 : PolW W7 Bpp pb rb 2 N nr q nb nxt := HP5.out.kept (hB7.block _ (by omega)) (hB7.block _ (by omega)) (hB7.block _ (by omega)) (fun u hu => hB7.block _ (by have := lt4 u hu; omega)) (fun u hu => hB7.block _ (by have := lt5 u hu; omega))
      have hR7 : RI W.heap.size W.heap.size (W.heap.size + 1) (W.heap.size + 1 + 1) Lf nxt N (pre ++ [v]) (Sn ++ ns) (Pl ++ ns) W7 := by
        refine ⟨hset.tight, hpend, hbox, fun u => ?_, by simp; omega, fun u hu => ?_, fun u hu => (hmem u).2 (.inl (HR.out.start u hu)), fun u hu x hx => ?_, fun u hu => ?_⟩
        · have h1 := HR.out.mem u
          simp only [List.mem_append, List.mem_singleton] at h1 ⊢
          rw [h1]
          constructor
          · rintro ((h | h | h) | h)
            · exact .inl (.inl h)
            · exact .inr (.inl h)
            · exact .inl (.inr h)
            · exact .inr (.inr h)
          · rintro ((h | h) | (h | h))
            · exact .inl (.inl h)
            · exact .inl (.inr (.inr h))
            · exact .inl (.inr (.inl h))
            · exact .inr h
        · rcases (hmem u).1 hu with h | h
          · exact HR.out.lt u h
          · exact HP5.out.closed v hvN u h
        · refine (hmem x).2 ?_
          rcases List.mem_append.1 hu with h | h
          · exact .inl (HR.out.next u h x hx)
          · simp at h
            subst h
            exact .inr hx
        · rcases (hmem u).1 hu with h | h
          · exact HR.out.sound u h
          · exact fun C h1 h2 => h2 v (HR.out.sound v hvS C h1 h2) u h
      refine ⟨⟨pre ++ [v], Sn ++ ns, Pl ++ ns, hR7, hJ _ _ _ hJ5 (GrownX.of_below hB7 (fun k hk => by omega)), hP7, (hB7.cell (p := ⟨Bnx, 0, none⟩) (show Bnx < _ by omega)).trans cn5, by omega⟩, ?_⟩
      rw [doneW_eq hR7.set hR7.pend, doneW_eq HR.out.set HR.out.pend]
      simp
      omega
end Go.Proofs.Qxb6609411a
