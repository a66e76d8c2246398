import Derived.Test.Qxb6609411aBuild3
import Derived.Test.Qxb6609411aReachDown
import Derived.BigQuiet
namespace Go.Proofs.Qxb6609411a
open Go.RowKit Go.Maps Go.WideMaps Go.WideElems

theorem mem_seT (lo hi : List Nat) (k u v : Nat) : u ∈ seT lo hi k v ↔ ∃ i, i < k ∧ lo.getD i 0 = v ∧ hi.getD i 0 = u := by
  induction k generalizing u v with
  | zero => exact ⟨fun h => absurd h (List.not_mem_nil), fun ⟨i, h, _⟩ => absurd h (Nat.not_lt_zero _)⟩
  | succ k ih =>
    show u ∈ (if v = lo.getD k 0 then addV (seT lo hi k (lo.getD k 0)) (hi.getD k 0) else seT lo hi k v) ↔ _
    by_cases e : v = lo.getD k 0
    · rw [if_pos e, mem_addV, ih]
      constructor
      · rintro (⟨i, h1, h2, h3⟩ | h)
        · exact ⟨i, by omega, h2.trans e.symm, h3⟩
        · exact ⟨k, by omega, e.symm, h.symm⟩
      · rintro ⟨i, h1, h2, h3⟩
        by_cases hk : i = k
        · subst hk; exact .inr h3.symm
        · exact .inl ⟨i, by omega, h2.trans e, h3⟩
    · rw [if_neg e, ih]
      constructor
      · rintro ⟨i, h1, h2, h3⟩
        exact ⟨i, by omega, h2, h3⟩
      · rintro ⟨i, h1, h2, h3⟩
        by_cases hk : i = k
        · subst hk; exact absurd h2.symm e
        · exact ⟨i, by omega, h2, h3⟩

theorem mem_juT (lo hi : List Nat) (k u v : Nat) : u ∈ juT lo hi k v ↔ ∃ i, i < k ∧ hi.getD i 0 = v ∧ lo.getD i 0 = u := by
  induction k generalizing u v with
  | zero => exact ⟨fun h => absurd h (List.not_mem_nil), fun ⟨i, h, _⟩ => absurd h (Nat.not_lt_zero _)⟩
  | succ k ih =>
    show u ∈ (if v = hi.getD k 0 then addV (juT lo hi k (hi.getD k 0)) (lo.getD k 0) else juT lo hi k v) ↔ _
    by_cases e : v = hi.getD k 0
    · rw [if_pos e, mem_addV, ih]
      constructor
      · rintro (⟨i, h1, h2, h3⟩ | h)
        · exact ⟨i, by omega, h2.trans e.symm, h3⟩
        · exact ⟨k, by omega, e.symm, h.symm⟩
      · rintro ⟨i, h1, h2, h3⟩
        by_cases hk : i = k
        · subst hk; exact .inr h3.symm
        · exact .inl ⟨i, by omega, h2.trans e, h3⟩
    · rw [if_neg e, ih]
      constructor
      · rintro ⟨i, h1, h2, h3⟩
        exact ⟨i, by omega, h2, h3⟩
      · rintro ⟨i, h1, h2, h3⟩
        by_cases hk : i = k
        · subst hk; exact absurd h2.symm e
        · exact ⟨i, by omega, h2, h3⟩

theorem dualT (lo hi : List Nat) (k u v : Nat) : u ∈ seT lo hi k v ↔ v ∈ juT lo hi k u := by
  rw [mem_seT, mem_juT]
  exact ⟨fun ⟨i, h1, h2, h3⟩ => ⟨i, h1, h3, h2⟩, fun ⟨i, h1, h2, h3⟩ => ⟨i, h1, h3, h2⟩⟩

theorem Rch.self (a : Nat) (nxt : Nat → List Nat) : Rch [a] nxt a := fun _ h _ => h a (List.mem_singleton.2 rfl)
theorem Rch.next {L : List Nat} {nxt : Nat → List Nat} {u v : Nat} (h : Rch L nxt u) (hv : v ∈ nxt u) : Rch L nxt v := fun C h1 h2 => h2 u (h C h1 h2) v hv
/-- A path read backwards. -/
theorem Rch.back {se ju : Nat → List Nat} (hd : ∀ u v, u ∈ se v → v ∈ ju u) {a b : Nat} (h : Rch [a] se b) : Rch [b] ju a := by
  refine h (fun v => Rch [v] ju a) (fun u hu => ?_) (fun u hu x hx => ?_)
  · rw [List.mem_singleton.1 hu]; exact Rch.self a ju
  · intro C h1 h2
    refine hu C (fun y hy => ?_) h2
    rw [List.mem_singleton.1 hy]
    exact h2 x (h1 x (List.mem_singleton.2 rfl)) u (hd _ _ hx)

theorem rch_dual (lo hi : List Nat) (k a b : Nat) : Rch [a] (seT lo hi k) b ↔ Rch [b] (juT lo hi k) a :=
  ⟨Rch.back fun u v => (dualT lo hi k u v).1, Rch.back fun u v => (dualT lo hi k v u).2⟩

theorem BP.polUp {W : World} {base pb rb N : Nat} {β : Nat → Nat} {lo hi : List Nat} {k : Nat} (h : BP W base pb rb N β (juT lo hi k) (seT lo hi k)) (hk : k ≤ hi.length)
    (hhi : ∀ (i : Nat) x, hi[i]? = some x → x < N) : PolAt W pb rb 3 N N (fun v => β v + 4) (fun v => β v + 3) (seT lo hi k) := by
  refine ⟨h.cr, h.roles, h.fs, fun v hv => (h.se v hv).mono (h.se v hv).len_le, fun v hv u hu => ?_⟩
  obtain ⟨i, h1, _, h3⟩ := (mem_seT lo hi k u v).1 hu
  refine hhi i u ?_
  rw [← h3]
  simp [show i < hi.length by omega]

theorem BP.polDown {W : World} {base pb rb N : Nat} {β : Nat → Nat} {lo hi : List Nat} {k : Nat} (h : BP W base pb rb N β (juT lo hi k) (seT lo hi k)) (hk : k ≤ lo.length)
    (hlo : ∀ (i : Nat) x, lo[i]? = some x → x < N) : PolAt W pb rb 2 N N (fun v => β v + 4) (fun v => β v + 2) (juT lo hi k) := by
  refine ⟨h.cr, h.roles, h.fj, fun v hv => (h.ju v hv).mono (h.ju v hv).len_le, fun v hv u hu => ?_⟩
  obtain ⟨i, h1, _, h3⟩ := (mem_juT lo hi k u v).1 hu
  refine hlo i u ?_
  rw [← h3]
  simp [show i < lo.length by omega]

/-- A map literal's entry is written like 'm[k] = v'. -/
theorem wpList_insert_own {H : Type} {P : Program} (w : World) {ops : Array Oper} {rest : List Oper} {o : Oper} {a : Act} {Q : Exit → Act → World → Prop}
    (hg : o.guard = none) (m x v : Operand) (t : TypeId) (hop : o.op = Op.insert t m x v)
    (k e : TypeId) (K : Keyed P k) (ht : P.underlying t = some (.map k e)) (R : Value → Option (DataW H × List MemPlace)) (b n : Nat) (D : DataW H)
    (hm : a.eval m = .map (some b)) (hown : w.ownsMap P k R b n D) (hn : n < maxLen) (key val : Value) (kl : Lit) (hx : a.eval x = key) (hv : a.eval v = val) (hkey : keyOf P k key = some kl)
    (d : DataW H) (ps : List MemPlace) (hval : R val = some (d, ps))
    (hK : ∀ w', w'.ownsMap P k R b (n + 1) (D.put kl d) → w.grownBy w' (some b) → wpList P ops Q rest (a.put o.dst undef) w') :
    wpList P ops Q (o :: rest) a w := by
  refine wpList_plain hg fun K' hK' => ?_
  obtain ⟨w', hrun, r1, r2⟩ := hown.update K ht hn hkey hval
  unfold Oper.wp
  simp [execOp, hop, hm, hx, hv, hrun, Result.andThen]
  exact hK' _ _ (hK w' r1 r2)

/-- A slice of ints as it came in. -/
def IRow (w : World) (a : Option Addr) (n : Nat) (z : List Int) : Prop :=
  n = 0 ∨ ∃ b o, a = some ⟨b, o, none⟩ ∧ b < w.heap.size ∧ ∀ (i : Nat), i < n → w.cell? ⟨b, o + i, none⟩ = some (.int .i64 (z.getD i 0))

/-- What edgesOK asks. -/
def Good (N : Int) (n : Nat) (z1 z2 : List Int) : Prop := ∀ (i : Nat), i < n → 0 ≤ z1.getD i 0 ∧ z1.getD i 0 < z2.getD i 0 ∧ z2.getD i 0 < N

theorem below_drewN {B : Nat} {a w : World} (h : Below B a w) (n : Nat) : Below B a (w.drewN n) := ⟨h.os, h.tape, h.output, h.size, h.block⟩

/-- edgesOK's answer. -/
def EAns (N : Int) (n1 n2 : Nat) (z1 z2 : List Int) (e : Ending) : Prop := e = .returned (.bool true) ∧ n1 = n2 ∧ Good N n1 z1 z2 ∨ e = .returned (.bool false)

theorem bytes12 (x0 x3 : Int) (a1 a2 : Option Addr) (n1 n2 c1 c2 : Nat) (w : World) : Calls Try.prog 12 #[.int .i64 x0, .slice a1 n1 c1, .slice a2 n2 c2, .int .i64 x3] w fun e w' => (e = .returned (.bool true) ∨ e = .returned (.bool false)) ∧ w = w' := by
  by_cases h1 : (1048576 : Int) < (n1 : Int)
  · go_enter Try.func12, Try.ntmps12
    go_wp2
    go_ret
    exact ⟨.inr rfl, rfl⟩
  · by_cases h2 : (1048576 : Int) < (n2 : Int)
    · go_enter Try.func12, Try.ntmps12
      go_wp2
      go_ret
      exact ⟨.inr rfl, rfl⟩
    · have hw : IntKind.i64.wrap ((n1 : Int) + (n2 : Int)) = (n1 : Int) + (n2 : Int) := by
        rw [IntKind.wrap_i64]; omega
      by_cases h3 : (1048576 : Int) < (n1 : Int) + (n2 : Int)
      · go_enter Try.func12, Try.ntmps12
        go_wp2
        go_ret
        exact ⟨.inr rfl, rfl⟩
      · go_enter Try.func12, Try.ntmps12
        go_wp2
        go_ret
        exact ⟨.inl rfl, rfl⟩

theorem bytes18 (x0 x3 x4 : Int) (a1 a2 : Option Addr) (n1 n2 c1 c2 : Nat) (w : World) : Calls Try.prog 18 #[.int .i64 x0, .slice a1 n1 c1, .slice a2 n2 c2, .int .i64 x3, .int .i64 x4] w fun e w' => (e = .returned (.bool true) ∨ e = .returned (.bool false)) ∧ w = w' := by
  by_cases h1 : (1048576 : Int) < (n1 : Int)
  · go_enter Try.func18, Try.ntmps18
    go_wp2
    go_ret
    exact ⟨.inr rfl, rfl⟩
  · by_cases h2 : (1048576 : Int) < (n2 : Int)
    · go_enter Try.func18, Try.ntmps18
      go_wp2
      go_ret
      exact ⟨.inr rfl, rfl⟩
    · have hw : IntKind.i64.wrap ((n1 : Int) + (n2 : Int)) = (n1 : Int) + (n2 : Int) := by
        rw [IntKind.wrap_i64]; omega
      by_cases h3 : (1048576 : Int) < (n1 : Int) + (n2 : Int)
      · go_enter Try.func18, Try.ntmps18
        go_wp2
        go_ret
        exact ⟨.inr rfl, rfl⟩
      · go_enter Try.func18, Try.ntmps18
        go_wp2
        go_ret
        exact ⟨.inl rfl, rfl⟩


set_option maxHeartbeats 2000000 in
set_option maxRecDepth 20000 in
theorem edges_any (N : Int) (a1 a2 : Option Addr) (n1 n2 c1 c2 : Nat) (z1 z2 : List Int) (w : World) (h1 : IRow w a1 n1 z1) (h2 : IRow w a2 n2 z2) (hm : n1 ≤ 4096) :
    Calls Try.prog 13 #[.int .i64 N, .slice a1 n1 c1, .slice a2 n2 c2] w fun e w' => EAns N n1 n2 z1 z2 e ∧ Below w.heap.size w w' := by
  by_cases hn : n1 = n2
  · subst hn
    have H1 := hide h1
    have H2 := hide h2
    clear h1 h2
    go_enter Try.func13, Try.ntmps13
    go_wp2_with fail
    go_loopw [7] (fun vi wr => ∃ (j : Nat), j ≤ n1 ∧ vi = .int .i64 j ∧ Good N j z1 z2 ∧ Below w.heap.size w wr) (fun vi _ => n1 - (intOf vi).toNat)
    case atStart => exact ⟨0, Nat.zero_le _, rfl, fun i h => absurd h (Nat.not_lt_zero _), Below.refl _ _⟩
    case round =>
      obtain ⟨j, hj, rfl, hG, hbe⟩ := hrel
      have HG := hide hG
      have HBE := hide hbe
      clear hG hbe
      by_cases hlt : j < n1
      · rcases H1.out with J1 | ⟨b1, o1, rfl, hb1w, hc1⟩
        · omega
        rcases H2.out with J2 | ⟨b2, o2, rfl, hb2w, hc2⟩
        · omega
        have c1 : wr.cell? ⟨b1, o1 + j, none⟩ = _ := (HBE.out.cell (p := ⟨b1, o1 + j, none⟩) hb1w).trans (hc1 j hlt)
        have c2 : wr.cell? ⟨b2, o2 + j, none⟩ = _ := (HBE.out.cell (p := ⟨b2, o2 + j, none⟩) hb2w).trans (hc2 j hlt)
        clear hc1 hc2
        generalize hxe : z1.getD j 0 = x at *
        generalize hye : z2.getD j 0 = y at *
        have h0 : (0 : Int) ≤ (j : Int) := Int.natCast_nonneg j
        have h1 : (j : Int) < (n1 : Int) := by omega
        by_cases g1 : x < 0
        · go_upto_region 6 with fail
          go_quiet (fail)
          go_wp2
          go_ret
          exact ⟨.inr rfl, below_drewN HBE.out _⟩
        · by_cases g2 : y ≤ x
          · go_upto_region 6 with fail
            go_quiet (fail)
            go_wp2
            go_ret
            exact ⟨.inr rfl, below_drewN HBE.out _⟩
          · by_cases g3 : N ≤ y
            · go_upto_region 6 with fail
              go_quiet (fail)
              go_wp2
              go_ret
              exact ⟨.inr rfl, below_drewN HBE.out _⟩
            · go_upto_region 6 with fail
              go_quiet (fail)
              go_wp2
              refine ⟨⟨j + 1, by omega, by rfl, fun i hi => ?_, below_drewN HBE.out _⟩, ?_⟩
              · by_cases hij : i = j
                · subst hij
                  rw [hxe, hye]
                  omega
                · exact HG.out i (by omega)
              · simp only [intOf]
                omega
      · have hjN : j = n1 := by omega
        subst hjN
        go_wp2_with fail
        go_ret
        exact ⟨.inl ⟨rfl, rfl, HG.out⟩, HBE.out⟩
  · have hne : ((n1 : Int) ≠ (n2 : Int)) := by omega
    go_enter Try.func13, Try.ntmps13
    go_wp2
    go_ret
    exact ⟨.inr rfl, Below.refl _ _⟩
end Go.Proofs.Qxb6609411a
