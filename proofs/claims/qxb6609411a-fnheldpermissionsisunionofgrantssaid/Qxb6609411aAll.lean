import Derived.Test.Qxb6609411aGBuild2
namespace Go.Proofs.Qxb6609411a
open Go.RowKit Go.Maps Go.WideMaps Go.WideElems Go.Shelf

theorem nodup_subL {α : Type} [DecidableEq α] : ∀ (L M : List α), L.Nodup → (∀ v ∈ L, v ∈ M) → L.length ≤ M.length
  | [], _, _, _ => Nat.zero_le _
  | a :: L, M, hn, hs => by
    have hn' := List.nodup_cons.1 hn
    have ha : a ∈ M := hs a (List.mem_cons_self ..)
    have := nodup_subL L (M.erase a) hn'.2 (fun v hv => (List.mem_erase_of_ne (fun e => hn'.1 (by rw [← e]; exact hv))).2 (hs v (List.mem_cons_of_mem _ hv)))
    rw [List.length_erase_of_mem ha] at this
    have hp : 0 < M.length := List.length_pos_of_mem ha
    simp only [List.length_cons]
    omega

theorem nodup_map_on {α β : Type} (f : α → β) : ∀ (L : List α), L.Nodup → (∀ x ∈ L, ∀ y ∈ L, f x = f y → x = y) → (L.map f).Nodup
  | [], _, _ => List.nodup_nil
  | a :: L, hn, hi => by
    have hn' := List.nodup_cons.1 hn
    rw [List.map_cons, List.nodup_cons]
    refine ⟨fun hm => ?_, nodup_map_on f L hn'.2 (fun x hx y hy => hi x (List.mem_cons_of_mem _ hx) y (List.mem_cons_of_mem _ hy))⟩
    obtain ⟨x, hx, e⟩ := List.mem_map.1 hm
    have := hi x (List.mem_cons_of_mem _ hx) a (List.mem_cons_self ..) e
    exact hn'.1 (by rw [← this]; exact hx)

/-- The roles' map holds the roles' names, and nothing else. -/
theorem roles_keys {w : World} {rb N : Nat} {q : Nat → Nat} {D : DataW Unit} (hown : w.ownsMap Try.prog 9 ptrElem rb N D) (hat : ∀ v, v < N → D.atKey (kN v) .nil = .lit (.int .i64 (q v : Int))) (hN : N ≤ 4096) :
    Maps.size D ≤ N ∧ (∀ v, v < N → Maps.has D (kN v) = true) ∧ ∀ kl, Maps.has D kl = true → ∃ v, v < N ∧ kl = kN v := by
  have hhas : ∀ v, v < N → Maps.has D (kN v) = true := by
    intro v hv
    cases h : Maps.has D (kN v) with
    | true => rfl
    | false =>
      have := Maps.atKey_of_not_has h .nil
      rw [hat v hv] at this
      cases this
  have hown' := hown
  obtain ⟨es, ck, _, _, hle, hD⟩ := hown
  have hlen := length_read (P := Try.prog) (k := 9) (R0 := ptrElem) es
  generalize (es.toList.map (rg Try.prog 9 ptrElem)).foldr DataW.insert [] = ents at hD hlen
  subst hD
  refine ⟨by show ents.length ≤ N; omega, hhas, fun kl hk => ?_⟩
  have hin : ∀ k, Maps.has (.map ents) k = true → k ∈ ents.map (·.1) := by
    intro k hk
    rw [Maps.has_eq, List.any_eq_true] at hk
    obtain ⟨p, hp, hs⟩ := hk
    exact List.mem_map.2 ⟨p, hp, WideAt.sameKey_eq hs⟩
  haveI : DecidableEq Lit := fun a b => Classical.propDecidable (a = b)
  rcases Classical.em (∃ v, v < N ∧ kl = kN v) with h | h
  · exact h
  · exfalso
    have hnd : (kl :: (List.range N).map kN).Nodup := by
      rw [List.nodup_cons]
      refine ⟨fun hm => ?_, nodup_map_on kN _ List.nodup_range (fun x hx y hy e => ?_)⟩
      · obtain ⟨v, hv, e⟩ := List.mem_map.1 hm
        exact h ⟨v, List.mem_range.1 hv, e.symm⟩
      · have h1 := List.mem_range.1 hx
        have h2 := List.mem_range.1 hy
        exact kN_inj (by omega) (by omega) e
    have := nodup_subL _ (ents.map (·.1)) hnd (fun v hv => by
      rcases List.mem_cons.1 hv with rfl | hv
      · exact hin _ hk
      · obtain ⟨u, hu, rfl⟩ := List.mem_map.1 hv
        exact hin _ (hhas u (List.mem_range.1 hu)))
    simp at this
    omega

theorem ptrElem_some {v : Value} {y : DataW Unit × List MemPlace} (h : ptrElem v = some y) : ∃ c : Option Nat, v = .pointer (c.map fun b => ⟨b, 0, none⟩) := by
  unfold ptrElem at h
  split at h
  · exact ⟨none, rfl⟩
  · rename_i b
    exact ⟨some b, rfl⟩
  · cases h

set_option maxRecDepth 100000 in
set_option maxHeartbeats 1000000 in
theorem all_seq (n : Nat) (hn : 1 ≤ n) (Bn b N : Nat) (q : Nat → Nat) (w : World) (hN : N ≤ 4096) (hBn : Bn < w.heap.size) (hc : w.cell? ⟨Bn, 0, none⟩ = some (.map (some b))) (hR : RolesV w b N N q) :
    SeqX n Try.prog 56 #[.pointer (some ⟨Bn, 0, none⟩)] (fun v : Nat => #[Value.string (nm v), .pointer (some ⟨q v, 0, none⟩)]) (fun v => v < N) (fun base k => k = base) (fun k => k = b) (fun xs => ∀ v, v ∈ xs ↔ v < N) N w := by
  intro l J W hW hJ hY h0
  have hb := hR.lt
  have hm : W.cell? ⟨Bn, 0, none⟩ = some (.map (some b)) := (hW.cell (p := ⟨Bn, 0, none⟩) hBn).trans hc
  have hbW : b < W.heap.size := Nat.lt_of_lt_of_le hb hW.size
  obtain ⟨D, hown, hatq⟩ := hR.kept (hW.block b hb)
  obtain ⟨hsz, hhas, hkl⟩ := roles_keys hown hatq hN
  refine callsIn_of_wp Try.func56 rfl trivial ?_ rfl
  simp only [Try.ntmps56, List.size_toArray, List.length_cons, List.length_nil, Nat.reduceAdd, Nat.reduceSub, Array.replicate_succ, Array.replicate_zero, List.push_toArray, List.append_toArray, List.nil_append, List.cons_append]
  have HK := hide hkl
  have HH := hide hhas
  have HA := hide hatq
  clear hkl hhas hatq
  gi_wp2_with (first
    | (gi_at_range; refine wpListIn_range_own _ rfl _ 71 rfl 9 55 law9 Try.underlying71 _ b N _ rfl hown ?_; intro w0 hrg0 hg0 hs0)
    | gi_in)
  try go_frame
  gi_loopw [3, 4] (fun _ _ wr => ∃ (left : Lit → Bool) (cnt : Nat) (pre : List Nat), wr.ranges Try.prog 9 ptrElem b W.heap.size N D left cnt ∧ LeftV (List.range N) pre left ∧ pre.length + cnt ≤ N ∧ J pre wr)
    (fun _ _ wr => wr.rangeLeft b W.heap.size)
  case atStart =>
    refine ⟨_, _, [], hrg0, ⟨by simp, List.nodup_nil, fun kl h => ?_, fun v hv _ => ?_⟩, by simp; omega, hJ _ _ _ h0 (GrownX.of_grown hg0 (fun r e => by cases e))⟩
    · obtain ⟨v, hv, e⟩ := HK.out kl h
      exact ⟨v, List.mem_range.2 hv, e, by simp⟩
    · exact HH.out v (List.mem_range.1 hv)
  case round =>
    obtain ⟨left, cnt, pre, hrg, hLV, hcnt, hJs⟩ := hrel
    have hrlt : W.heap.size < wr.heap.size := hrg.lt
    gi_wp2_with (first
      | (gi_at_next; refine wpListIn_next_ranges _ rfl _ rfl 9 law9 ptrElem (fun s : ByteArray => Value.string s) (fun c : Option Nat => Value.pointer (c.map fun b => ⟨b, 0, none⟩)) (fun key kl hk => by obtain ⟨x, hx, _⟩ := string_of_keyOf Try.underlying9 hk; exact ⟨x, hx⟩) (fun v y hv => ptrElem_some hv) b W.heap.size N _ _ _ rfl hrg ?_ ?_)
      | gi_in)
    · intro hc0 hl0
      gi_wp2
      go_end0
      refine ⟨⟨_, rfl⟩, pre, fun v => ⟨fun h => List.mem_range.1 (hLV.sub v h), fun hv => ?_⟩, hJs⟩
      rcases Decidable.em (v ∈ pre) with h | h
      · exact h
      · have := hLV.all v (List.mem_range.2 hv) h
        rw [hl0] at this
        cases this
    · intros
      rename_i x cc kl yd yp w2 cnt2 hkey hlk hv hat hrg2 hlt2 hg2 hs2 hen
      obtain ⟨v, hvL, rfl, hvp⟩ := hLV.isL kl hlk
      have hvN := List.mem_range.1 hvL
      obtain ⟨x', ex, ek, _⟩ := string_of_keyOf Try.underlying9 hkey
      have hx : x = nm v := by
        injection ex with ex
        subst ex
        unfold kN at ek
        injection ek with ek
        exact (ByteArray.ext (Array.toList_inj.1 ek)).symm
      subst hx
      have hcc : cc = some (q v) := by
        have h1 := hat .nil
        rw [HA.out v hvN] at h1
        subst h1
        have h2 := ptrElem_inv hv
        cases cc with
        | none => cases h2
        | some c => simp at h2; rw [h2]
      subst hcc
      have hJ2 : J pre w2 := hJ _ _ _ hJs (GrownX.of_grown hg2 (fun r e => by cases e; rfl))
      have hzw2 : w2.heap.size = wr.heap.size := by assumption
      obtain ⟨fn, tmps, assign, body, hy, hRd⟩ := hY pre v w2 hJ2 (by omega) hvN (by omega)
      clear hat hv
      gi_wp2
      refine hRd.mono ?_
      rintro e W3 ⟨rfl, hJ3, hk3⟩
      gi_wp2
      have hrg3 := ranges_same hrg2 (hk3.same b (by omega) (.inr rfl)) (hk3.same W.heap.size (by omega) (.inl rfl))
      go_roundw
      case rel =>
        refine ⟨_, cnt2, pre ++ [v], hrg3, ⟨?_, ?_, ?_, ?_⟩, by simp; omega, hJ3⟩
        · intro u hu
          rcases List.mem_append.1 hu with h | h
          · exact hLV.sub u h
          · simp at h; subst h; exact hvL
        · rw [List.nodup_append]
          refine ⟨hLV.nodup, by simp, ?_⟩
          intro a ha b' hb' e
          simp at hb'
          subst e hb'
          exact hvp ha
        · intro kl hk
          simp at hk
          obtain ⟨u, hu, e, hup⟩ := hLV.isL kl hk.1
          refine ⟨u, hu, e, ?_⟩
          intro hmem
          rcases List.mem_append.1 hmem with h | h
          · exact hup h
          · simp at h
            subst h
            rw [e, WideAt.sameKey_self (kN_lit u)] at hk
            cases hk.2
        · intro u hu hun
          have h1 : u ∉ pre := fun h => hun (List.mem_append.2 (.inl h))
          have h2 : u ≠ v := fun h => hun (List.mem_append.2 (.inr (by simp [h])))
          have h3 := hLV.all u hu h1
          have huN := List.mem_range.1 hu
          simp [h3, sameKey_ne (fun e => h2 (kN_inj (by omega) (by omega) e))]
      case measure => rw [hrg3.left_eq, hrg.left_eq]; exact hlt2

theorem all_any (m : Option Nat) (w : World) : Calls Try.prog 51 #[.map m] w fun e w' => e = .returned (.func (.func 56) #[] #[.pointer (some ⟨w.heap.size, 0, none⟩)]) ∧ w.alloc (.cells #[.map m] 71) = w' := by
  go_enter Try.func51, Try.ntmps51
  go_wp2
  go_ret
  exact ⟨rfl, rfl⟩
end Go.Proofs.Qxb6609411a
