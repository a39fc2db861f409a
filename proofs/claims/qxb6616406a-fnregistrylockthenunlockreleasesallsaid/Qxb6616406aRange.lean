/-
  A range over a function whose j-th round is handed the j-th element: the body is asked at the element that comes, not at every one.
-/
import Derived.RangeFuncNested
import Derived.RangeFuncBound
import Derived.RangeFuncCalls
import Derived.RangeFuncLeaves
import Derived.RangeFuncWrites
namespace Go.Proofs.Qxb6616406a.Rg
open Go.RowKit

variable {F : Fence} {n : Nat} {P : Program}

/-- The rounds are counted; the j-th hands the values `xs j` over. -/
theorem wpIn_rangeFunc_next {g : Operand} {ps : Array Tmp} {assign body : Code} {Q : Exit → Act → World → Prop} {a : Act} {w : World}
    (hro : F.round = none) (h1 : 1 ≤ n) {gf : Nat} {lb : Array Value} (hg : a.eval g = .func (.func gf) #[] lb) (hFg : F.fn gf)
    (eg : ∀ args w, (callFunc gf args).run P w = .ok (.enter gf args) w) (m : Nat) (xs : Nat → Array Value) {Kp : World → World → Prop}
    (hKt : ∀ {A B C : World}, Kp A B → Kp B C → Kp A C)
    (hKb : ∀ (W : World) (l : Nat) (o o' : Obj), w.heap.size ≤ l → W.heap[l]? = some o → o.isCells = false → Kp W (W.putObj l o'))
    (hps : ∀ j, (xs j).size = ps.size)
    (hseq : ∀ (l : Nat) (J : Nat → World → Prop) (W : World), Below w.heap.size w W →
      (∀ j W1, j < m → J j W1 → YieldAt F (n - 1 - 1) P l (xs j) W1 fun e W' => e = .returned (.bool true) ∧ J (j + 1) W' ∧ Kp W1 W') → J 0 W →
      CallsIn F (n - 1) P gf (#[.func (.yield l) #[] #[]] ++ lb) W fun e W' => (∃ v, e = .returned v) ∧ J m W')
    (I : Nat → World → Prop) (hI : OwnFrom w.heap.size I) (h0 : I 0 w) (a₁ : Nat → Act)
    (hassign : ∀ (l j : Nat) (W : World) (K : Act → World → Prop), j < m → K (a₁ j) W →
      assign.wpIn (F.inRound l) (n - 1 - 1) P (Exit.then K (fun _ _ _ => False)) { tmps := (ps.zip (xs j)).foldl (fun t (p, v) => t.setIfInBounds p v) a.tmps, defers := [] } W)
    (hbody : ∀ (l j : Nat) (W : World), j < m → I j W → body.wpIn (F.inRound l) (n - 1 - 1) P (Exit.then (fun _ W' => KeepsFrom w.heap.size W W' ∧ Kp W W' ∧ I (j + 1) W') (fun _ _ _ => False)) (a₁ j) W)
    (hdone : ∀ (D : Nat) (W : World), w.heap.size ≤ D → I m W → W.heap[D]? = some (.deferred (some [])) → Q .normal { a with defers := { target := .collected D, args := #[] } :: a.defers } W) :
    (Code.rangeFunc g ps assign body).wpIn F n P Q a w := by
  refine wpIn_rangeFunc fun fn hfn => ?_
  rw [hro]
  let rec0 : LoopState → Option Code → Loop := fun st pe => { state := st, pending := pe, fn, tmps := a.tmps, params := ps, assign, body, defers := w.heap.size }
  obtain ⟨rec, hrec⟩ : ∃ rec, rec = rec0 := ⟨_, rfl⟩
  let W1 := (w.alloc (.deferred (some []))).alloc (.loop (rec .ready none))
  have hs1 : W1.heap.size = w.heap.size + 1 + 1 := by simp [W1]
  have hL1 : W1.heap[w.heap.size + 1]? = some (.loop (rec .ready none)) := by
    have := World.alloc_heap_new (w.alloc (.deferred (some []))) (.loop (rec .ready none)); rwa [World.size_alloc] at this
  have hK1 : W1.heap[w.heap.size]? = some (.deferred (some [])) := (Below.heap_alloc _ _ _ (by simp)).trans (World.alloc_heap_new w _)
  have hI1 : I 0 W1 := hI.alloc _ (hI.alloc _ h0)
  have hb1 : Below w.heap.size w W1 := ((Below.refl _ w).alloc (Nat.le_refl _) _).alloc (by simp) _
  -- where the record and the block for deferred calls lie while no round runs
  let J : Nat → World → Prop := fun j W => I j W ∧ W.heap[w.heap.size + 1]? = some (.loop (rec .ready none)) ∧ W.heap[w.heap.size]? = some (.deferred (some []))
  have round : ∀ j W, j < m → J j W → YieldAt F (n - 1 - 1) P (w.heap.size + 1) (xs j) W fun e W' => e = .returned (.bool true) ∧ J (j + 1) W' ∧ Kp W W' := by
    rintro j W hj ⟨hi, hl, hk⟩
    have hlt : w.heap.size + 1 < W.heap.size := (Array.getElem?_eq_some_iff.1 hl).1
    have hy := run_yield (P := P) (args := xs j) hl (by rw [hrec]; exact hps j)
    rw [hrec] at hy
    let W2 := W.putObj (w.heap.size + 1) (.loop { rec .ready none with state := .busy })
    have hl2 : W2.heap[w.heap.size + 1]? = some (.loop { rec .ready none with state := .busy }) := World.putObj_heap_same hlt
    have hk2 : W2.heap[w.heap.size]? = some (.deferred (some [])) := (World.putObj_heap_other (by omega)).trans hk
    refine ⟨fn, _, assign, body, hy, roundIn_of_wpIn hfn (hassign _ j W _ hj ⟨W2, run_beginRound hl (by rw [hrec]), ?_⟩)⟩
    refine wpIn_mono (hbody _ j W2 hj (hI.putObj _ hi (by omega) hl rfl)) ?_
    rintro e a3 W3 hp
    cases e with
    | normal =>
      obtain ⟨hk3, hkp3, hi3⟩ := hp
      have hl3 := hk3.same _ _ (by omega) hl2 rfl
      have hr := run_endRound (P := P) none hl3
      refine ⟨_, _, hr, rfl, ⟨hI.putObj _ hi3 (by omega) hl3 rfl, ?_, (World.putObj_heap_other (by omega)).trans (hk3.same _ _ (Nat.le_refl _) hk2 rfl)⟩, ?_⟩
      · rw [World.putObj_heap_same (Array.getElem?_eq_some_iff.1 hl3).1, hrec]; rfl
      · exact hKt (hKt (hKb _ _ _ _ (by omega) hl rfl) hkp3) (hKb _ _ _ _ (by omega) hl3 rfl)
    | ret => exact hp.elim
    | exit id => exact hp.elim
    | goto t => exact hp.elim
    | panic ch => exact hp.elim
    | outgrown => exact hp.elim
  refine ⟨w.heap.size + 1, [{ target := .collected w.heap.size, args := #[] }], W1, { target := .fn (.func gf) lb, args := #[.func (.yield (w.heap.size + 1)) #[] #[]] }, W1, gf,
    #[.func (.yield (w.heap.size + 1)) #[] #[]] ++ lb, W1, ?_, ?_, ?_, ?_, fun _ => h1, ?_⟩
  · simp only [W1, hrec]; exact run_enterLoop_outer _ _ _ _ _
  · simp only [resolve, hg]; simp [go_sem]
  · intro f' hf'; simp [Target.leads] at hf'; subst hf'; exact hFg
  · simp [invoke, go_sem, eg]
  · refine (hseq (w.heap.size + 1) J W1 hb1 round ⟨hI1, hL1, hK1⟩).mono ?_
    rintro e W2 ⟨⟨v, rfl⟩, hi, hl, hk⟩
    have he := run_endLoop (P := P) hl (by rw [hrec]; simp [rec0])
    have hp : (rec LoopState.ready none).pending = none := by rw [hrec]
    rw [hp] at he
    exact ⟨none, _, he, hdone _ _ (Nat.le_refl _) (hI.putObj _ hi (by omega) hl rfl) ((World.putObj_heap_other (by omega)).trans hk)⟩

end Go.Proofs.Qxb6616406a.Rg
