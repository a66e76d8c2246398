import Derived.Test.Qxb6609411aExact2
namespace Go.Proofs.Qxb6609411a
open Go.RowKit Go.Maps Go.WideMaps Go.WideElems

theorem setCell_blk (w : World) (a : Addr) (v : Value) (b : Nat) (h : b ≠ a.block) : (w.setCell a v).heap[b]? = w.heap[b]? := by
  unfold World.setCell
  show (w.heap.modify a.block _)[b]? = _
  rw [Array.getElem?_modify, if_neg (fun e => h e.symm)]

set_option maxHeartbeats 4000000 in
set_option maxRecDepth 20000 in
theorem held_walk (x0 : Int) (a1 a2 a3 : Option Addr) (n1 n2 n3 c1 c2 c3 : Nat) (z1 : List Int) (z2 z3 : List ByteArray) (w : World) (h1 : IRow w a1 n1 z1) (h2 : SRow w a2 n2 z2) (h3 : SRow w a3 n3 z3) :
    Calls Try.prog 9 #[.int .i64 x0, .slice a1 n1 c1, .slice a2 n2 c2, .slice a3 n3 c3] w fun e w' => e = .returned (.bool true) ∧ Below w.heap.size w w' := by
  have H1 := hide h1
  have H2 := hide h2
  have H3 := hide h3
  clear h1 h2 h3
  go_enter Try.func9, Try.ntmps9
  go_wp2_with fail
  refine (bytes32 x0 a1 a2 a3 n1 n2 n3 c1 c2 c3 z2 z3 w H2.out H3.out).mono ?_
  rintro e _ ⟨rfl | rfl, rfl⟩
  rotate_left
  · go_wp2_with fail
    go_ret
    exact ⟨rfl, Below.refl _ _⟩
  go_upto_region 3 with fail
  by_cases g1 : (4096 : Int) < (n1 : Int)
  · go_wp2_with fail
    go_ret
    exact ⟨rfl, Below.refl _ _⟩
  by_cases g2 : (4096 : Int) < (n2 : Int)
  · go_wp2_with fail
    go_ret
    exact ⟨rfl, Below.refl _ _⟩
  by_cases g3 : (4096 : Int) < (n3 : Int)
  · go_wp2_with fail
    go_ret
    exact ⟨rfl, Below.refl _ _⟩
  go_wp2_with fail
  refine (strBytes_any a2 n2 c2 z2 w H2.out (by omega)).mono ?_
  rintro e _ ⟨⟨t1, rfl⟩, rfl⟩
  go_wp2_with fail
  refine (strBytes_any a3 n3 c3 z3 w H3.out (by omega)).mono ?_
  rintro e _ ⟨⟨t2, rfl⟩, rfl⟩
  by_cases g4 : x0 < 1
  · go_wp2_with fail
    all_goals
      go_ret
      exact ⟨rfl, Below.refl _ _⟩
  by_cases g5 : 4096 < x0
  · go_wp2_with fail
    all_goals
      go_ret
      exact ⟨rfl, Below.refl _ _⟩
  obtain ⟨N, rfl⟩ := Int.eq_ofNat_of_zero_le (show 0 ≤ x0 by omega)
  have hmk := make33 N (by omega)
  go_wp2_with fail
  · go_ret
    exact ⟨rfl, Below.refl _ _⟩
  refine (grants_any N a1 a2 a3 n1 n2 n3 c1 c2 c3 z1 w H1.out (by omega)).mono ?_
  rintro e w1 ⟨⟨rfl, rfl, rfl, hG⟩ | rfl, hB1⟩
  rotate_left
  · go_wp2_with fail
    go_ret
    exact ⟨rfl, hB1⟩
  have HG := hide hG
  have HB1 := hide hB1
  clear hG hB1
  go_wp2_with fail
  refine (gbuild_any N n1 a1 a2 a3 c1 c2 c3 z1 z2 z3 w1 (by omega) (by omega) (H1.out.below HB1.out) (H2.out.below HB1.out) (H3.out.below HB1.out) HG.out).mono ?_
  rintro e w2 ⟨pb, rb, β, rfl, hBG, hB2⟩
  have HBG := hide hBG
  have HB2 := hide (HB1.out.trans (hB2.mono HB1.out.size))
  clear hBG hB2 HB1
  go_wp2_with fail
  refine (heldAll_any pb rb N n1 (fun v => β v + 4) β _ w2 (by omega) (by omega) HBG.out.cr HBG.out.roles HBG.out.fp HBG.out.pe).mono ?_
  rintro e w3 ⟨gb, Lg, nn, rfl, hS, hL, hB3⟩
  have HL : Hid (∀ p, p ∈ Lg ↔ ∃ i, i < n1 ∧ gP z2 z3 i = p) := hide fun p => by
    rw [hL p]
    constructor
    · rintro ⟨v, hv, hp⟩
      obtain ⟨i, h1, h2, h3⟩ := (mem_peT _ _ _ p v).1 hp
      exact ⟨i, h1, by rw [← h3, permsOf_getD h1]; rfl⟩
    · rintro ⟨i, h1, h2⟩
      have hgi := HG.out i h1
      refine ⟨(natsOf n1 z1).getD i 0, ?_, (mem_peT _ _ _ p _).2 ⟨i, h1, rfl, by rw [permsOf_getD h1]; exact h2⟩⟩
      rw [natsOf_getD h1]
      omega
  have HS := hide hS
  have HB3 := hide (HB2.out.trans (hB3.mono HB2.out.size))
  clear hS hL hB3 HB2 HBG
  go_wp2_with fail
  have hbm := bools_made w3 N
  have hzA : (w3.alloc (.cells (madeCells #[.bool false] N) 4)).heap.size = w3.heap.size + 1 := by simp
  have hgl := HS.out.lt
  have HBM := hide hbm
  have HS4 := hide (HS.out.kept (Below.heap_alloc w3 (.cells (madeCells #[.bool false] N) 4) _ hgl))
  have HB4 := hide (HB3.out.alloc HB3.out.size (.cells (madeCells #[.bool false] N) 4))
  have hb3z := HB3.out.size
  clear hbm HB3
  go_loopw [12] (fun vi wr => ∃ (j : Nat), j ≤ N ∧ vi = .int .i64 j ∧ Bools wr w3.heap.size N (fun v => decide (v < j)) ∧ SetP wr gb nn Lg ∧ Below w.heap.size w wr) (fun vi _ => N - (intOf vi).toNat)
  case atStart => exact ⟨0, Nat.zero_le _, rfl, World.rowIs.congr HBM.out (fun v _ => by simp), HS4.out, HB4.out⟩
  case round =>
    clear HBM HS4 HB4
    obtain ⟨j, hj, rfl, hBo, hS5, hbe⟩ := hrel
    have HBO := hide hBo
    have HS5 := hide hS5
    have HBE := hide hbe
    clear hBo hS5 hbe
    by_cases hlt : j < N
    · have cj := HBO.out.cell hlt
      have fj := HBO.out.frozen j
      have h0 : (0 : Int) ≤ (j : Int) := Int.natCast_nonneg j
      have h1 : (j : Int) < (N : Int) := by omega
      go_wp2
      refine ⟨⟨j + 1, by omega, by rfl, World.rowIs.congr (HBO.out.mark j) (fun v _ => ?_), HS5.out.kept (setCell_blk _ ⟨w3.heap.size, j, none⟩ _ _ (show gb ≠ w3.heap.size by omega)), HBE.out.setCell (p := ⟨w3.heap.size, j, none⟩) (show w.heap.size ≤ w3.heap.size by omega) _⟩, ?_⟩
      · show Value.bool (if v = j then true else decide (v < j)) = Value.bool (decide (v < j + 1))
        by_cases e : v = j
        · subst e; simp
        · rw [if_neg e]
          congr 1
          exact decide_eq_decide.2 (by omega)
      · simp only [intOf]
        omega
    · have hjN : j = N := by omega
      subst hjN
      have hbt : Bools wr w3.heap.size j (fun _ => true) := World.rowIs.congr HBO.out (fun v hv => by simp [hv])
      have HBT := hide hbt
      clear hbt
      go_wp2_with fail
      refine (exact_any j n1 w3.heap.size gb nn Lg a1 a2 a3 c1 c2 c3 z1 z2 z3 wr (by omega) HS5.out HL.out HBT.out (H1.out.below HBE.out) (H2.out.below HBE.out) (H3.out.below HBE.out) HG.out).mono ?_
      rintro e w6 ⟨rfl, hb6⟩
      have HB6 := hide (HBE.out.trans (hb6.mono HBE.out.size))
      clear hb6
      go_wp2_with fail
      go_ret
      exact ⟨rfl, HB6.out⟩
end Go.Proofs.Qxb6609411a
