/-
  Seat b6600830aD: 'for name := range strings.SplitSeq(list, ",")': a range over an iterator that KEEPS ITS STATE IN A CELL OF ITS OWN (the captured 's', which it cuts behind each round).
  The guide's laws ('wpIn_rangeFunc_own..') ask that the caller's invariant abide the turn of blocks that are no cells; this iterator turns one block of cells, 'Bs'. So here: the same law, turned: the caller's invariant abides a store into ⟨Bs, 0⟩ too; no round leaves early.
-/
import Derived.Test.Qxb6600830aDoorPlain
import Derived.Test.Qxb6600830aDoorShelf
import Derived.RangeFuncNested
import Derived.RangeFuncBound
import Derived.RangeFuncCalls
import Derived.RangeFuncLeaves
import Derived.RangeFuncBox
import Derived.Shelf.Abstract
import Derived.Shelf.RegionOpen
import Derived.WalkKit
import Derived.OwnWalkIn
import Derived.TacticsInMore
import Derived.LoopNIn
import Derived.LoopIn
namespace Go.Proofs.Qxb6600830aDoor
open Go.RowKit Go.Shelf
variable {F : Fence} {n : Nat} {P : Program}

/-- The iterator's word: what it gives are the strings xs, one by one, each of at most M bytes; it stores into ⟨Bs, 0⟩ alone. -/
def SeqCell (F : Fence) (n : Nat) (P : Program) (g : Nat) (lb : Array Value) (Bs M N : Nat) (Kp : World → World → Prop) (xs : List ByteArray) (w : World) : Prop :=
  ∀ (l : Nat) (J : List ByteArray → World → Prop) (W : World), Below w.heap.size w W → (∀ s W v, J s W → J s (W.setCell ⟨Bs, 0, none⟩ v)) →
    (∀ pre x W1, J pre W1 → pre.length < N → x.size ≤ M → YieldAt F (n - 1) P l #[.string x] W1 fun e W' => e = .returned (.bool true) ∧ J (pre ++ [x]) W' ∧ Kp W1 W') →
    J [] W →
    CallsIn F n P g (#[.func (.yield l) #[] #[]] ++ lb) W fun e W' => (∃ v, e = .returned v) ∧ J xs W'

/-- How the body of a round is left: off its end. -/
def cellPost (B : Nat) (Kp : World → World → Prop) (I : List ByteArray → World → Prop) (xs : List ByteArray) (W : World) : Exit → Act → World → Prop
  | .normal, _, W' => KeepsFrom B W W' ∧ Kp W W' ∧ I xs W'
  | _, _, _ => False

theorem wpIn_rangeFunc_cell {g : Operand} {ps : Array Tmp} {assign body : Code} {Q : Exit → Act → World → Prop} {a : Act} {w : World}
    (hro : F.round = none) (h1 : 1 ≤ n) {gf : Nat} {lb : Array Value} (hg : a.eval g = .func (.func gf) #[] lb) (hFg : F.fn gf) (eg : ∀ args w, (callFunc gf args).run P w = .ok (.enter gf args) w)
    {Bs M N : Nat} {Kp : World → World → Prop} {xs : List ByteArray} (hBs : Bs < w.heap.size) (hseq : SeqCell F (n - 1) P gf lb Bs M N Kp xs w)
    (hKt : ∀ {A B C : World}, Kp A B → Kp B C → Kp A C) (hKb : ∀ (W : World) (l : Nat) (o' : Obj), w.heap.size ≤ l → Kp W (W.putObj l o')) (hps : ps.size = 1)
    (I : List ByteArray → World → Prop) (hI : OwnFrom w.heap.size I) (hIc : ∀ s W v, I s W → I s (W.setCell ⟨Bs, 0, none⟩ v)) (h0 : I [] w) (a₁ : ByteArray → Act)
    (hassign : ∀ (l : Nat) (x : ByteArray) (W : World) (K : Act → World → Prop), K (a₁ x) W →
      assign.wpIn (F.inRound l) (n - 1 - 1) P (Exit.then K (fun _ _ _ => False)) { tmps := (ps.zip #[.string x]).foldl (fun t (p, v) => t.setIfInBounds p v) a.tmps, defers := [] } W)
    (hbody : ∀ (l : Nat) (pre : List ByteArray) (x : ByteArray) (W : World), I pre W → pre.length < N → x.size ≤ M → body.wpIn (F.inRound l) (n - 1 - 1) P (cellPost w.heap.size Kp I (pre ++ [x]) W) (a₁ x) W)
    (hdone : ∀ (D : Nat) (W : World), w.heap.size ≤ D → I xs W → W.heap[D]? = some (.deferred (some [])) → Q .normal { a with defers := { target := .collected D, args := #[] } :: a.defers } W) :
    (Code.rangeFunc g ps assign body).wpIn F n P Q a w := by
  refine wpIn_rangeFunc ?_
  intro fn hfn
  rw [hro]
  obtain ⟨rec, hrec⟩ : ∃ rec : LoopState → Option Code → Loop, rec = fun st pe => { state := st, pending := pe, fn, tmps := a.tmps, params := ps, assign, body, defers := w.heap.size } := ⟨_, rfl⟩
  obtain ⟨W1, hW1⟩ : ∃ W1, (w.alloc (.deferred (some []))).alloc (.loop (rec .ready none)) = W1 := ⟨_, rfl⟩
  have hL1 : W1.heap[w.heap.size + 1]? = some (.loop (rec .ready none)) := by
    rw [← hW1]; have := World.alloc_heap_new (w.alloc (.deferred (some []))) (.loop (rec .ready none)); rwa [World.size_alloc] at this
  have hK1 : W1.heap[w.heap.size]? = some (.deferred (some [])) := by
    rw [← hW1]; exact (Below.heap_alloc _ _ _ (by simp)).trans (World.alloc_heap_new w _)
  have hI1 : I [] W1 := by rw [← hW1]; exact hI.alloc _ (hI.alloc _ h0)
  have hb1 : Below w.heap.size w W1 := by
    rw [← hW1]; exact ((Below.refl _ w).alloc (Nat.le_refl _) _).alloc (by simp) _
  refine ⟨w.heap.size + 1, [{ target := .collected w.heap.size, args := #[] }], W1, { target := .fn (.func gf) lb, args := #[.func (.yield (w.heap.size + 1)) #[] #[]] }, W1, gf,
    #[.func (.yield (w.heap.size + 1)) #[] #[]] ++ lb, W1, ?_, ?_, ?_, ?_, fun _ => h1, ?_⟩
  · rw [← hW1, hrec]; exact run_enterLoop_outer _ _ _ _ _
  · simp only [resolve, hg]
    simp [go_sem]
  · intro f' hf'; simp [Target.leads] at hf'; subst hf'; exact hFg
  · simp [invoke, go_sem, eg]
  · refine (hseq (w.heap.size + 1)
      (fun pre W => I pre W ∧ W.heap[w.heap.size + 1]? = some (.loop (rec .ready none)) ∧ W.heap[w.heap.size]? = some (.deferred (some [])))
      W1 hb1
      (fun s W v hs => ⟨hIc s W v hs.1, (Below.heap_setCell W ⟨Bs, 0, none⟩ v _ (by show w.heap.size + 1 ≠ Bs; omega)).trans hs.2.1, (Below.heap_setCell W ⟨Bs, 0, none⟩ v _ (by show w.heap.size ≠ Bs; omega)).trans hs.2.2⟩)
      ?_ ⟨hI1, hL1, hK1⟩).mono ?_
    · -- one round
      rintro pre x W ⟨hi, hl, hk⟩ hlen hxM
      have hlt : w.heap.size + 1 < W.heap.size := (Array.getElem?_eq_some_iff.1 hl).1
      have hy := run_yield (P := P) (args := #[Value.string x]) hl (by rw [hrec]; exact hps.symm)
      rw [hrec] at hy
      refine ⟨fn, _, assign, body, hy, roundIn_of_wpIn hfn (hassign _ x W _ ⟨_, run_beginRound hl (by rw [hrec]), ?_⟩)⟩
      have hl2 : (W.putObj (w.heap.size + 1) (.loop { rec .ready none with state := .busy })).heap[w.heap.size + 1]? = some (.loop { rec .ready none with state := .busy }) := World.putObj_heap_same hlt
      have hk2 : (W.putObj (w.heap.size + 1) (.loop { rec .ready none with state := .busy })).heap[w.heap.size]? = some (.deferred (some [])) := (World.putObj_heap_other (by omega)).trans hk
      have hw2 : Kp W (W.putObj (w.heap.size + 1) (.loop { rec .ready none with state := .busy })) := hKb _ _ _ (by omega)
      refine wpIn_mono (hbody _ pre x _ (hI.putObj _ hi (by omega) hl rfl) hlen hxM) ?_
      rintro e a3 W3 hp
      cases e with
      | normal =>
        obtain ⟨hk3, hkp3, hi3⟩ := hp
        have hl3 := hk3.same _ _ (by omega) hl2 rfl
        have hr := run_endRound (P := P) none hl3
        rw [hrec] at hr hl3
        refine ⟨_, _, hr, rfl, ⟨hI.putObj _ hi3 (by omega) hl3 rfl, ?_, (World.putObj_heap_other (by omega)).trans (hk3.same _ _ (Nat.le_refl _) hk2 rfl)⟩, hKt (hKt hw2 hkp3) (hKb _ _ _ (by omega))⟩
        rw [World.putObj_heap_same (Array.getElem?_eq_some_iff.1 hl3).1, hrec]
        rfl
      | ret => exact hp.elim
      | exit id => exact hp.elim
      | goto t => exact hp.elim
      | panic ch => exact hp.elim
      | outgrown => exact hp.elim
    · rintro e W2 ⟨⟨v, rfl⟩, hi, hl, hk⟩
      exact ⟨none, _, by have := run_endLoop (P := P) hl (by rw [hrec]; simp); rw [hrec] at this; exact this, hdone _ _ (Nat.le_refl _) (hI.putObj _ hi (by omega) hl rfl) ((World.putObj_heap_other (by omega)).trans hk)⟩
end Go.Proofs.Qxb6600830aDoor
