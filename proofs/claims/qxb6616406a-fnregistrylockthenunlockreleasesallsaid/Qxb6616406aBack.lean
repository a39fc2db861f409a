/-
  slices.Backward over the keys, and its iterator, at seat b6616406a's dump.
-/
import Derived.Test.Qxb6616406aRegLock
import Derived.Test.Qxb6616406aRange
import Derived.Shelf.Abstract
import Derived.Shelf.RegionOpen
import Derived.WalkKit
import Derived.OwnWalkIn
import Derived.TacticsInMore
import Derived.LoopNIn
import Derived.LoopIn
import Derived.RegionIn
namespace Go.Proofs.Qxb6616406a.Rg
open Go.RowKit Go.Maps Go.Shelf
open Go.MuLone
set_option linter.unusedVariables false
attribute [local go_sem] Oper.semAt_some

/-- Whatever lay in w₁ and is none of the registry's lies in B as in A. -/
def Same (w₁ A B : World) : Prop := ∀ b, b < w₁.heap.size → Off w₁ b → B.heap[b]? = A.heap[b]?

theorem Same.refl (w₁ A : World) : Same w₁ A A := fun _ _ _ => rfl
theorem Same.trans {w₁ A B C : World} (h : Same w₁ A B) (k : Same w₁ B C) : Same w₁ A C := fun b hb ho => (k b hb ho).trans (h b hb ho)
theorem Same.putObj {w₁ : World} (W : World) (l : Nat) (o' : Obj) (hl : w₁.heap.size ≤ l) : Same w₁ W (W.putObj l o') := fun b hb _ => World.putObj_heap_other (by omega)

theorem KR.same {w₁ W : World} {a : Option Addr} {keys : List ByteArray} (h : KR w₁ a keys) (s : Same w₁ w₁ W) : KR W a keys := h.of (fun kb hlt ok _ => s kb hlt ok)

/-- slices.Backward: the keys are boxed. -/
theorem backward (n : Nat) (a : Option Addr) (len cap : Nat) (w : World) :
    CallsIn Fence.wide n Try.prog 25 #[.slice a len cap] w fun e w' => e = .returned (.func (.func 34) #[] #[.pointer (some ⟨w.heap.size, 0, none⟩)]) ∧ w' = w.alloc (.cells #[.slice a len cap] 25) := by
  refine callsIn_of_wp Try.func25 rfl trivial ?_ rfl
  simp only [Try.ntmps25, List.size_toArray, List.length_cons, List.length_nil, Nat.reduceAdd, Nat.reduceSub, Array.replicate_succ, Array.replicate_zero, List.push_toArray, List.append_toArray, List.nil_append, List.cons_append]
  gi_wp2
  go_ret
  exact ⟨rfl, rfl⟩

/-- What the j-th round is handed: the keys from the last to the first. -/
def nth (keys : List ByteArray) (j : Nat) : Array Value := #[.int .i64 ((keys.length : Int) - 1 - j), .string (keys[keys.length - 1 - j]?.getD ⟨#[]⟩)]

set_option maxRecDepth 100000 in
set_option maxHeartbeats 2000000 in
/-- Backward's iterator. -/
theorem back34 (n l Bs cap : Nat) (a : Option Addr) (keys : List ByteArray) (hkn : keys.length ≤ 1048576) (w₁ : World) (hBs : w₁.heap[Bs]? = some (.cells #[.slice a keys.length cap] 25 (0, 0))) (hkr : KR w₁ a keys)
    (J : Nat → World → Prop) (W : World) (hW : Below w₁.heap.size w₁ W)
    (hY : ∀ j W1, j < keys.length → J j W1 → YieldAt Fence.wide (n - 1) Try.prog l (nth keys j) W1 fun e W' => e = .returned (.bool true) ∧ J (j + 1) W' ∧ Same w₁ W1 W') (h0 : J 0 W) :
    CallsIn Fence.wide n Try.prog 34 #[.func (.yield l) #[] #[], .pointer (some ⟨Bs, 0, none⟩)] W fun e W' => (∃ v, e = .returned v) ∧ J keys.length W' := by
  have hnI : (keys.length : Int) ≤ 1048576 := by omega
  have S0 : Same w₁ w₁ W := fun b hb _ => hW.block b hb
  have oB : Off w₁ Bs := ⟨_, _, _, hBs, by decide, by decide⟩
  have lB : Bs < w₁.heap.size := (Array.getElem?_eq_some_iff.1 hBs).1
  have box : ∀ X, Same w₁ w₁ X → X.cell? ⟨Bs, 0, none⟩ = some (.slice a keys.length cap) := fun X s => cell_of_block ((s Bs lB oB).trans hBs)
  have hb0 := box W S0
  have HS : Hid (Same w₁ w₁ W) := S0
  clear S0
  refine callsIn_of_wp Try.func34 rfl trivial ?_ rfl
  simp only [Try.ntmps34, List.size_toArray, List.length_cons, List.length_nil, Nat.reduceAdd, Nat.reduceSub, Array.replicate_succ, Array.replicate_zero, List.push_toArray, List.append_toArray, List.nil_append, List.cons_append]
  gi_wp2
  gi_loopw [3] (fun i wr => ∃ k : Nat, k ≤ keys.length ∧ i = .int .i64 ((keys.length : Int) - 1 - k) ∧ J k wr ∧ Hid (Same w₁ w₁ wr)) (fun i _ => (intOf i + 1).toNat)
  case atStart => exact ⟨0, Nat.zero_le _, by go_num, h0, HS⟩
  case round =>
    obtain ⟨k, hk, rfl, hJ, S⟩ := hrel
    clear hb0
    have hb := box wr S.out
    by_cases hlt : k < keys.length
    · obtain ⟨fn, tmps, assign, body, hy, hR⟩ := hY k wr hlt hJ
      have hi0 : 0 ≤ (keys.length : Int) - 1 - k := by omega
      have hi1 : (keys.length : Int) - 1 - k < keys.length := by omega
      obtain ⟨kb, ha, hrow⟩ : ∃ kb, a = some ⟨kb, 0, none⟩ ∧ wr.rowIs kb 9 keys.length (fun j => .string (keys[j]?.getD ⟨#[]⟩)) := by
        rcases hkr.same S.out with h | h
        · rw [h] at hlt; simp at hlt
        · exact h
      have hck := hrow.cell (i := keys.length - 1 - k) (by omega)
      obtain ⟨i, hi⟩ : ∃ i : Nat, (keys.length : Int) - 1 - k = (i : Int) ∧ keys.length - 1 - k = i := ⟨keys.length - 1 - k, by omega, rfl⟩
      unfold nth at hy
      rw [hi.2] at hck
      rw [hi.1] at hi0 hi1 hy ⊢
      rw [hi.2] at hy
      subst ha
      clear hrow
      gi_wp2
      refine ⟨fun h => (by cases h), hR.mono ?_⟩
      rintro e W3 ⟨rfl, hJ3, hS3⟩
      gi_wp2
      go_roundw
      case rel => exact ⟨k + 1, by omega, by rw [← hi.1]; go_num, hJ3, S.out.trans hS3⟩
      case measure => simp [intOf]
    · obtain rfl : k = keys.length := by omega
      have hi0 : ¬ (0 ≤ (keys.length : Int) - 1 - (keys.length : Int)) := by omega
      gi_wp2
      go_end0
      exact ⟨⟨_, rfl⟩, hJ⟩

end Go.Proofs.Qxb6616406a.Rg
