import Derived.Test.Qxb6609411aRows
import Derived.RangeFuncNested
import Derived.RangeFuncBound
import Derived.RangeFuncCalls
import Derived.RangeFuncLeaves
import Derived.WalkKit
import Derived.OwnWalkIn
import Derived.TacticsInMore
import Derived.LoopNIn
import Derived.LoopIn
namespace Go.Proofs.Qxb6609411a
open Go.RowKit

/-- What a round of a loop over an iterator keeps: the blocks that 'kp' names. -/
structure KeepX (kp : Nat → Prop) (W W' : World) : Prop where
  size : W.heap.size ≤ W'.heap.size
  same : ∀ k, k < W.heap.size → kp k → W'.heap[k]? = W.heap[k]?

theorem KeepX.refl (kp : Nat → Prop) (W : World) : KeepX kp W W := ⟨Nat.le_refl _, fun _ _ _ => rfl⟩
theorem KeepX.trans {kp : Nat → Prop} {A B C : World} (h : KeepX kp A B) (k : KeepX kp B C) : KeepX kp A C :=
  ⟨Nat.le_trans h.size k.size, fun i hi hp => (k.same i (Nat.lt_of_lt_of_le hi h.size) hp).trans (h.same i hi hp)⟩
theorem KeepX.mono {kp kp' : Nat → Prop} {A B : World} (h : KeepX kp A B) (hp : ∀ k, kp' k → kp k) : KeepX kp' A B :=
  ⟨h.size, fun k hk ho => h.same k hk (hp k ho)⟩
theorem KeepX.of_grown {kp : Nat → Prop} {A B : World} {row : Option Nat} (h : A.grownBy B row) (hr : ∀ k, row = some k → ¬ kp k) : KeepX kp A B :=
  ⟨h.size, fun k hk ho => h.block k hk (fun e => hr k e.symm ho)⟩

/-- Only new blocks and blocks that 'mine' names have turned. -/
structure GrownX (mine : Nat → Prop) (A A' : World) : Prop where
  os : A'.os = A.os
  tape : A'.tape = A.tape
  output : A'.output = A.output
  size : A.heap.size ≤ A'.heap.size
  block : ∀ k, k < A.heap.size → ¬ mine k → A'.heap[k]? = A.heap[k]?

theorem GrownX.of_grown {mine : Nat → Prop} {A A' : World} {row : Option Nat} (h : A.grownBy A' row) (hr : ∀ r, row = some r → mine r) : GrownX mine A A' :=
  ⟨h.os, h.tape, h.output, h.size, fun k hk hm => h.block k hk (fun e => hm (hr k e.symm))⟩
theorem GrownX.of_below {mine : Nat → Prop} {A A' : World} {B : Nat} (h : Below B A A') (hB : ∀ k, ¬ mine k → k < B) : GrownX mine A A' :=
  ⟨h.os, h.tape, h.output, h.size, fun k _ hm => h.block k (hB k hm)⟩
theorem GrownX.below {mine : Nat → Prop} {w A A' : World} {B : Nat} (h : GrownX mine A A') (hw : Below B w A) (hB : ∀ k, k < B → ¬ mine k) (hs : B ≤ A.heap.size) : Below B w A' :=
  hw.trans ⟨h.os, h.tape, h.output, h.size, fun k hk => h.block k (Nat.lt_of_lt_of_le hk hs) (hB k hk)⟩

/-- 'J' abides whatever turns new blocks, or blocks that 'mine' names. -/
def Abide {β : Type} (mine : Nat → Prop) (J : β → World → Prop) : Prop := ∀ s A A', J s A → GrownX mine A A' → J s A'

/-- A function value that hands the values 'encs x' of a list with 'S' to whatever yield it is called with. 'mine base k': block k is the iterator's own, 'base' being the heap's size when it was called; 'pr': the older blocks that it reads. -/
def SeqX {α : Type} (n : Nat) (P : Program) (g : Nat) (lb : Array Value) (encs : α → Array Value) (Ok : α → Prop) (mine : Nat → Nat → Prop) (pr : Nat → Prop) (S : List α → Prop) (N : Nat) (w : World) : Prop :=
  ∀ (l : Nat) (J : List α → World → Prop) (W : World), Below w.heap.size w W → Abide (mine W.heap.size) J →
    (∀ pre x W1, J pre W1 → pre.length < N → Ok x → W.heap.size < W1.heap.size → YieldAt Fence.wide (n - 1) P l (encs x) W1 fun e W' => e = .returned (.bool true) ∧ J (pre ++ [x]) W' ∧ KeepX (fun k => mine W.heap.size k ∨ pr k) W1 W') →
    J [] W →
    CallsIn Fence.wide n P g (#[.func (.yield l) #[] #[]] ++ lb) W fun e W' => (∃ v, e = .returned v) ∧ ∃ xs, S xs ∧ J xs W'

/-- How a body that never leaves its loop ends. -/
def bodyX {α : Type} (kp : Nat → Prop) (I : List α → World → Prop) (xs : List α) (W : World) : Exit → Act → World → Prop
  | .normal, _, W' => KeepX kp W W' ∧ I xs W'
  | _, _, _ => False

theorem below_putObj {B : Nat} (W : World) (l : Nat) (o : Obj) (h : B ≤ l) (hB : B ≤ W.heap.size) : Below B W (W.putObj l o) :=
  (Below.refl B W).grown (grownBy_putObj' W l o) hB (fun k e => by cases e; exact h)

/-- What the loop itself and its iterator may turn. -/
def loopMine (w : World) (mine : Nat → Nat → Prop) (k : Nat) : Prop := k = w.heap.size ∨ k = w.heap.size + 1 ∨ mine (w.heap.size + 2) k

/-- THE LAW: a range over such a value, the body never leaving the loop. -/
theorem wpIn_rangeX {α : Type} {n : Nat} {P : Program} {g : Operand} {ps : Array Tmp} {assign body : Code} {Q : Exit → Act → World → Prop} {a : Act} {w : World}
    {gf : Nat} {lb : Array Value} (hg : a.eval g = .func (.func gf) #[] lb) (eg : ∀ args w, (callFunc gf args).run P w = .ok (.enter gf args) w)
    {encs : α → Array Value} {Ok : α → Prop} {mine : Nat → Nat → Prop} {pr : Nat → Prop} {S : List α → Prop} {N : Nat} (hseq : SeqX (n - 1) P gf lb encs Ok mine pr S N w) (hpr : ∀ k, pr k → k < w.heap.size) (hmi : ∀ k, mine (w.heap.size + 2) k → w.heap.size + 2 ≤ k)
    (hps : ∀ x, (encs x).size = ps.size)
    (I : List α → World → Prop) (hI : Abide (loopMine w mine) I) (h0 : I [] w) (a₁ : α → Act)
    (hassign : ∀ (l : Nat) (x : α) (W : World) (K : Act → World → Prop), K (a₁ x) W →
      assign.wpIn (Fence.wide.inRound l) (n - 1 - 1) P (Exit.then K (fun _ _ _ => False)) { tmps := (ps.zip (encs x)).foldl (fun t (p, v) => t.setIfInBounds p v) a.tmps, defers := [] } W)
    (hbody : ∀ (l : Nat) (pre : List α) (x : α) (W : World), I pre W → w.heap.size + 2 < W.heap.size → pre.length < N → Ok x → body.wpIn (Fence.wide.inRound l) (n - 1 - 1) P (bodyX (fun k => loopMine w mine k ∨ pr k) I (pre ++ [x]) W) (a₁ x) W)
    (hdone : ∀ (D : Nat) (xs : List α) (W : World), D = w.heap.size → S xs → I xs W → W.heap[D]? = some (.deferred (some [])) → Q .normal { a with defers := { target := .collected D, args := #[] } :: a.defers } W) :
    (Code.rangeFunc g ps assign body).wpIn Fence.wide n P Q a w := by
  refine wpIn_rangeFunc fun fn hfn => ?_
  obtain ⟨rec, hrec⟩ : ∃ rec : LoopState → Loop, rec = fun st => { state := st, pending := none, fn, tmps := a.tmps, params := ps, assign, body, defers := w.heap.size } := ⟨_, rfl⟩
  obtain ⟨W1, hW1⟩ : ∃ W1, (w.alloc (.deferred (some []))).alloc (.loop (rec .ready)) = W1 := ⟨_, rfl⟩
  have hz1 : W1.heap.size = w.heap.size + 2 := by rw [← hW1]; simp
  have hL1 : W1.heap[w.heap.size + 1]? = some (.loop (rec .ready)) := by
    have h := World.alloc_heap_new (w.alloc (.deferred (some []))) (.loop (rec .ready))
    rw [World.size_alloc, hW1] at h
    exact h
  have hD1 : W1.heap[w.heap.size]? = some (.deferred (some [])) := by
    rw [← hW1]; exact (Below.heap_alloc _ _ _ (by simp)).trans (World.alloc_heap_new w _)
  have hb1 : Below w.heap.size w W1 := by
    rw [← hW1]; exact ((Below.refl _ w).alloc (Nat.le_refl _) _).alloc (by simp) _
  have hI1 : I [] W1 := by
    rw [← hW1]
    exact hI _ _ _ (hI _ _ _ h0 (GrownX.of_grown (World.grownBy_alloc _ _ none) (fun r e => by cases e))) (GrownX.of_grown (World.grownBy_alloc _ _ none) (fun r e => by cases e))
  have hIp : ∀ (s : List α) (A : World) (o : Obj), I s A → I s (A.putObj (w.heap.size + 1) o) := fun s A o h =>
    hI _ _ _ h (GrownX.of_grown (grownBy_putObj' A _ o) (fun r e => by cases e; exact .inr (.inl rfl)))
  refine ⟨w.heap.size + 1, [{ target := .collected w.heap.size, args := #[] }], W1, { target := .fn (.func gf) lb, args := #[.func (.yield (w.heap.size + 1)) #[] #[]] }, W1, gf,
    #[.func (.yield (w.heap.size + 1)) #[] #[]] ++ lb, W1, ?_, ?_, ?_, ?_, ?_, ?_⟩
  · rw [← hW1, hrec]; exact run_enterLoop_outer _ _ _ _ _
  · simp only [resolve, hg]
    simp [go_sem]
  · intro _ _; trivial
  · simp [invoke, go_sem, eg]
  · intro h; cases h
  · refine (hseq (w.heap.size + 1) (fun pre W => I pre W ∧ W.heap[w.heap.size + 1]? = some (.loop (rec .ready)) ∧ W.heap[w.heap.size]? = some (.deferred (some []))) W1 hb1 ?_ ?_ ⟨hI1, hL1, hD1⟩).mono ?_
    · rintro s A A' ⟨hi, hl, hd⟩ hg'
      rw [hz1] at hg'
      have hl' : w.heap.size + 1 < A.heap.size := (Array.getElem?_eq_some_iff.1 hl).1
      refine ⟨hI _ _ _ hi ⟨hg'.os, hg'.tape, hg'.output, hg'.size, fun k hk hm => hg'.block k hk (fun h => hm (.inr (.inr h)))⟩, (hg'.block _ hl' ?_).trans hl, (hg'.block _ (by omega) ?_).trans hd⟩
      · intro e
        have := hmi _ e
        omega
      · intro e
        have := hmi _ e
        omega
    · rintro pre x W ⟨hi, hl, hd⟩ hlen hok hbig
      have hlt : w.heap.size + 1 < W.heap.size := (Array.getElem?_eq_some_iff.1 hl).1
      have hy := run_yield (P := P) (args := encs x) hl (by rw [hrec]; exact hps x)
      rw [hrec] at hy
      refine ⟨fn, _, assign, body, hy, roundIn_of_wpIn hfn (hassign _ x W _ ⟨_, run_beginRound hl (by rw [hrec]), ?_⟩)⟩
      obtain ⟨W2, hW2⟩ : ∃ W2, W.putObj (w.heap.size + 1) (.loop { rec .ready with state := .busy }) = W2 := ⟨_, rfl⟩
      have hi2 : I pre W2 := by rw [← hW2]; exact hIp _ _ _ hi
      rw [hW2]
      have hz2 : W2.heap.size = W.heap.size := by rw [← hW2]; simp
      have hl2 : W2.heap[w.heap.size + 1]? = some (.loop { rec .ready with state := .busy }) := by rw [← hW2]; exact World.putObj_heap_same hlt
      have hd2 : W2.heap[w.heap.size]? = some (.deferred (some [])) := by rw [← hW2]; exact (World.putObj_heap_other (by omega)).trans hd
      have hne : ∀ k, (mine W1.heap.size k ∨ pr k) → k ≠ w.heap.size + 1 := by
        intro k ho
        rw [hz1] at ho
        rcases ho with h | h
        · have := hmi k h
          omega
        · have := hpr k h
          omega
      have hk2 : KeepX (fun k => mine W1.heap.size k ∨ pr k) W W2 := ⟨by omega, fun k _ ho => by
        rw [← hW2]
        exact World.putObj_heap_other (hne k ho)⟩
      refine wpIn_mono (hbody _ pre x W2 hi2 (by omega) hlen hok) ?_
      rintro e a3 W3 hp
      cases e with
      | normal =>
        obtain ⟨hk3, hi3⟩ := hp
        have hl3 : W3.heap[w.heap.size + 1]? = some (.loop { rec .ready with state := .busy }) := (hk3.same _ (by omega) (.inl (.inr (.inl rfl)))).trans hl2
        have hd3 : W3.heap[w.heap.size]? = some (.deferred (some [])) := (hk3.same _ (by omega) (.inl (.inl rfl))).trans hd2
        have hlt3 : w.heap.size + 1 < W3.heap.size := (Array.getElem?_eq_some_iff.1 hl3).1
        have hr := run_endRound (P := P) none hl3
        refine ⟨_, _, hr, rfl, ⟨hIp _ _ _ hi3, ?_, (World.putObj_heap_other (by omega)).trans hd3⟩, ?_⟩
        · rw [World.putObj_heap_same hlt3, hrec]; rfl
        · refine (hk2.trans (hk3.mono (fun k h => ?_))).trans ⟨by simp, fun k _ ho => World.putObj_heap_other (hne k ho)⟩
          rw [hz1] at h
          rcases h with h | h
          · exact .inl (.inr (.inr h))
          · exact .inr h
      | ret => exact hp.elim
      | exit id => exact hp.elim
      | goto t => exact hp.elim
      | panic ch => exact hp.elim
      | outgrown => exact hp.elim
    · rintro e W2 ⟨⟨v, rfl⟩, xs, hS, hi, hl, hd⟩
      have hr := run_endLoop (P := P) hl (by rw [hrec]; simp)
      have hpend : (rec .ready).pending = none := by rw [hrec]
      rw [hpend] at hr
      exact ⟨none, _, hr, hdone _ xs _ rfl hS (hIp _ _ _ hi) ((World.putObj_heap_other (by omega)).trans hd)⟩
end Go.Proofs.Qxb6609411a
