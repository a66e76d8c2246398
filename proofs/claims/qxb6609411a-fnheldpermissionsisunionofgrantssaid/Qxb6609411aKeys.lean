import Derived.Test.Qxb6609411aSets
import Derived.RegionIn
namespace Go.Proofs.Qxb6609411a
open Go.RowKit Go.Maps Go.WideMaps Go.WideElems

theorem ranges_same {w w' : World} {b r n : Nat} {D : DataW Unit} {left : Lit → Bool} {cnt : Nat} {R : Value → Option (DataW Unit × List MemPlace)} {k : TypeId} (h : w.ranges Try.prog k R b r n D left cnt)
    (hb : w'.heap[b]? = w.heap[b]?) (hr : w'.heap[r]? = w.heap[r]?) : w'.ranges Try.prog k R b r n D left cnt := by
  obtain ⟨es, clock, since, seen, c0, h1, F, hs, hD, h2, rest⟩ := h
  exact ⟨es, clock, since, seen, c0, hb.trans h1, F, hs, hD, hr.trans h2, rest⟩

theorem below_grown_new {B : Nat} {W W' : World} {r : Nat} (hg : W.grownBy W' (some r)) (hB : B ≤ r) (hs : B ≤ W.heap.size) : Below B W W' :=
  (Below.refl B W).grown hg hs (fun k e => by cases e; exact hB)

/-- The state of a range over a set of names: 'pre' has come. -/
structure LeftV (L pre : List Nat) (left : Lit → Bool) : Prop where
  sub : ∀ v ∈ pre, v ∈ L
  nodup : pre.Nodup
  isL : ∀ kl, left kl = true → ∃ v ∈ L, kl = kN v ∧ v ∉ pre
  all : ∀ v ∈ L, v ∉ pre → left (kN v) = true

set_option maxRecDepth 100000 in
set_option maxHeartbeats 1000000 in
theorem keys_seq (n : Nat) (hn : 1 ≤ n) (Bn b nn : Nat) (L : List Nat) (w : World) (hBn : Bn < w.heap.size) (hc : w.cell? ⟨Bn, 0, none⟩ = some (.map (some b))) (hS : SetV w b nn L) :
    SeqX n Try.prog 54 #[.pointer (some ⟨Bn, 0, none⟩)] (fun v : Nat => #[Value.string (nm v)]) (fun v => v ∈ L) (fun base k => k = base) (fun k => k = b) (fun xs => (∀ v, v ∈ xs ↔ v ∈ L) ∧ xs.length ≤ L.length) L.length w := by
  intro l J W hW hJ hY h0
  have hb := hS.lt
  have hm : W.cell? ⟨Bn, 0, none⟩ = some (.map (some b)) := (hW.cell (p := ⟨Bn, 0, none⟩) hBn).trans hc
  have hbW : b < W.heap.size := Nat.lt_of_lt_of_le hb hW.size
  obtain ⟨D, hown, hsz, hnd, hlt, hhas, hkl⟩ := hS.kept (hW.block b hb)
  refine callsIn_of_wp Try.func54 rfl trivial ?_ rfl
  simp only [Try.ntmps54, List.size_toArray, List.length_cons, List.length_nil, Nat.reduceAdd, Nat.reduceSub, Array.replicate_succ, Array.replicate_zero, List.push_toArray, List.append_toArray, List.nil_append, List.cons_append]
  have HK := hide hkl
  have HH := hide hhas
  clear hkl hhas
  gi_wp2_with (first
    | (gi_at_range; refine wpListIn_range_own _ rfl _ 29 rfl 9 32 law9 Try.underlying29 _ b nn _ rfl hown ?_; intro w0 hrg0 hg0 hs0)
    | gi_in)
  try go_frame
  gi_loopw [3] (fun _ wr => ∃ (left : Lit → Bool) (cnt : Nat) (pre : List Nat), wr.ranges Try.prog 9 (unitElem (H := Unit)) b W.heap.size nn D left cnt ∧ LeftV L pre left ∧ pre.length + cnt ≤ L.length ∧ J pre wr)
    (fun _ wr => wr.rangeLeft b W.heap.size)
  case atStart =>
    refine ⟨_, _, [], hrg0, ⟨by simp, List.nodup_nil, fun kl h => ?_, fun v hv _ => ?_⟩, by simp; omega, hJ _ _ _ h0 (GrownX.of_grown hg0 (fun r e => by cases e))⟩
    · obtain ⟨v, hv, e⟩ := HK.out kl h
      exact ⟨v, hv, e, by simp⟩
    · rw [HH.out v (hlt v hv)]; simp [hv]
  case round =>
    obtain ⟨left, cnt, pre, hrg, hLV, hcnt, hJs⟩ := hrel
    have hrlt : W.heap.size < wr.heap.size := hrg.lt
    gi_wp2_with (first
      | (gi_at_next; refine wpListIn_next_ranges _ rfl _ rfl 9 law9 (unitElem (H := Unit)) (fun s : ByteArray => Value.string s) (fun _ : Unit => Value.agg #[]) (fun key kl hk => by obtain ⟨x, hx, _⟩ := string_of_keyOf Try.underlying9 hk; exact ⟨x, hx⟩) (fun v y hv => by obtain ⟨rfl, _⟩ := unitElem_inv hv; exact ⟨(), rfl⟩) b W.heap.size nn _ _ _ rfl hrg ?_ ?_)
      | gi_in)
    · intro hc0 hl0
      gi_wp2
      go_end0
      refine ⟨⟨_, rfl⟩, pre, ⟨fun v => ⟨hLV.sub v, fun hv => ?_⟩, by omega⟩, hJs⟩
      rcases Decidable.em (v ∈ pre) with h | h
      · exact h
      · have := hLV.all v hv h
        rw [hl0] at this
        cases this
    · intros
      rename_i x kl yd yp w2 cnt2 hkey hlk hv hat hrg2 hlt2 hg2 hs2 hen
      obtain ⟨v, hvL, rfl, hvp⟩ := hLV.isL kl hlk
      obtain ⟨x', ex, ek, _⟩ := string_of_keyOf Try.underlying9 hkey
      have hx : x = nm v := by
        injection ex with ex
        subst ex
        unfold kN at ek
        injection ek with ek
        exact (ByteArray.ext (Array.toList_inj.1 ek)).symm
      subst hx
      have hJ2 : J pre w2 := hJ _ _ _ hJs (GrownX.of_grown hg2 (fun r e => by cases e; rfl))
      have hzw2 : w2.heap.size = wr.heap.size := by assumption
      obtain ⟨fn, tmps, assign, body, hy, hR⟩ := hY pre v w2 hJ2 (by omega) hvL (by omega)
      clear hat hv
      gi_wp2
      refine hR.mono ?_
      rintro e W3 ⟨rfl, hJ3, hk3⟩
      gi_wp2
      have hrg3 := ranges_same hrg2 (hk3.same b (by omega) (.inr rfl)) (hk3.same W.heap.size (by omega) (.inl rfl))
      go_roundw
      case rel =>
        refine ⟨_, cnt2, pre ++ [v], hrg3, ⟨?_, ?_, ?_, ?_⟩, by simp; omega, hJ3⟩
        · intro u hu
          rcases List.mem_append.1 hu with h | h
          · exact hLV.sub u h
          · simp at h; subst h; exact hvL
        · rw [List.nodup_append]
          refine ⟨hLV.nodup, by simp, ?_⟩
          intro a ha b' hb' e
          simp at hb'
          subst e hb'
          exact hvp ha
        · intro kl hk
          simp at hk
          obtain ⟨u, hu, e, hup⟩ := hLV.isL kl hk.1
          refine ⟨u, hu, e, ?_⟩
          intro hmem
          rcases List.mem_append.1 hmem with h | h
          · exact hup h
          · simp at h
            subst h
            rw [e, WideAt.sameKey_self (kN_lit u)] at hk
            cases hk.2
        · intro u hu hun
          have h1 : u ∉ pre := fun h => hun (List.mem_append.2 (.inl h))
          have h2 : u ≠ v := fun h => hun (List.mem_append.2 (.inr (by simp [h])))
          have h3 := hLV.all u hu h1
          simp [h3, sameKey_ne (fun e => h2 (kN_inj (hlt u hu) (hlt v hvL) e))]
      case measure => rw [hrg3.left_eq, hrg.left_eq]; exact hlt2

theorem keys_any (m : Option Nat) (w : World) : Calls Try.prog 43 #[.map m] w fun e w' => e = .returned (.func (.func 54) #[] #[.pointer (some ⟨w.heap.size, 0, none⟩)]) ∧ w.alloc (.cells #[.map m] 29) = w' := by
  go_enter Try.func43, Try.ntmps43
  go_wp2
  go_ret
  exact ⟨rfl, rfl⟩
end Go.Proofs.Qxb6609411a
