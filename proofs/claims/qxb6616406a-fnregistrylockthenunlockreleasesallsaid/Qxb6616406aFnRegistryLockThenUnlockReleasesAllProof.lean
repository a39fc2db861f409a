/-
  THE PROOF OF 'Rows.FnRegistryLockThenUnlockReleasesAllSaid'. The frame after the guide's shells for laws over slices (the slice of strings opened by 'open_strings'); the walk lies in Qxb6616406aRegLaw.
-/
import Derived.Test.Qxb6616406aRows
import Derived.WalkKit
import Derived.ProofKit
import Derived.OpenShut
import Derived.ShutString
import Derived.SliceStrings
import Derived.ChangeOld
import Derived.Below
import Derived.Test.Qxb6616406aRegLaw
namespace Go.Proofs.Qxb6616406a.fnRegistryLockThenUnlockReleasesAll
open Go.ChangeShapes Go.WideShapes Go.ChangeAt Go.RowKit
open Go.ChangeMaps (open_string shut_string)
set_option linter.unusedVariables false

theorem own : ownKnob Try.prog.godebug = none := by kernel_rfl
theorem laidOut : laidOutB Try.prog = true := by kernel_rfl

set_option maxRecDepth 100000 in
theorem lifted (os : Os) (started : os.Started) (H : Type) (enc : TypeId × Value → H) :
    ReturnsInHanded {} Try.checked os 5 .any (Rows.fnRegistryLockThenUnlockReleasesAllSpec.pre6 enc Try.prog Try.f5 Rows.fnRegistryLockThenUnlockReleasesAllRow.domain false) (Rows.fnRegistryLockThenUnlockReleasesAllSpec.post enc Try.prog Try.f5 false true false false) := by
  refine returnsInHanded_of_change (C := Try.checked) own started (by kernel_rfl) Try.func5
    (ChangeSpec.witness6 (enc := enc) (C := Try.checked) false ⟨#[], #[.slice none 0 0], []⟩ 8 (by kernel_rfl) (by kernel_rfl) (by kernel_rfl) (by kernel_rfl)) ?_
  intro W base args ds gs before hval0 hW hcnd _
  have hval : ∀ (j : Nat) t v, Try.f5.params[j]? = some t → args[j]? = some v → Value.okWide Try.prog W .any base t v := hval0
  have hW' := hW
  obtain ⟨p, q, hA0, hV, rfl, hfz, hnd⟩ := hW
  have hA : DataW.TrodAll enc Try.prog W 0 (fun _ => true) true Try.f5.params.toList args.toList ds p := hA0
  rw [Try.params5] at hA hval
  obtain ⟨v0, vs0, d0, ds0, p0, q0, hargs, rfl, rfl, h0, r0⟩ := trodAll_cons hA
  obtain ⟨rfl, rfl, rfl⟩ := trodAll_nil r0
  obtain rfl : args = #[v0] := by cases args; simp_all
  obtain ⟨rfl, rfl⟩ := trodVars_none hV
  obtain ⟨a1, len1, cap1, rfl⟩ := okWide_slice Try.underlying25 (hval 0 25 v0 rfl rfl)
  have k1 := h0
  have lt1 : ∀ x ∈ p0, x.block < W.heap.size := by obtain ⟨m, hm⟩ := k1; exact DataW.trod_lt m _ _ _ hm
  obtain ⟨ps, w1, c1, l1⟩ : ∃ ps, Rg.Strs W a1 len1 ps ∧ (a1 = none → cap1 = 0) ∧ len1 ≤ maxLen := by
    obtain ⟨fuel, hf⟩ := h0
    rcases open_strings Try.underlying25 Try.underlying9 (by kernel_rfl) hf with ⟨hcs, _⟩ | ⟨x, l, c, ss, hcs, _, hl, hm, hz, _, hcell, hws⟩
    · simp [Value.cells] at hcs
      obtain ⟨rfl, rfl, rfl⟩ := hcs
      exact ⟨[], ⟨rfl, fun _ => rfl, fun x hx => (by cases hx), fun p hp => (by cases hp)⟩, fun _ => rfl, by unfold maxLen; omega⟩
    · simp [Value.cells] at hcs
      obtain ⟨rfl, rfl, rfl⟩ := hcs
      simp only [if_true] at hz
      refine ⟨ss.take len1, ⟨by simp; omega, fun h => (by cases h), fun y hy j u hu => ?_, fun p hp => hws p (List.mem_of_mem_take hp)⟩, fun h => (by cases h), by omega⟩
      cases hy
      rw [List.getElem?_take] at hu
      split at hu
      · have hj : j < ss.length := (List.getElem?_eq_some_iff.1 hu).1
        rw [hcell j hj]
        simp [List.getD, hu]
      · cases hu
  clear hA0 hval0
  obtain rfl : ps.length = len1 := w1.1
  refine (Rg.law a1 cap1 ps W l1 w1.2.2.2 (Rg.lies_of w1) (fun h => ⟨w1.2.1 h, c1 h⟩)).mono fun e W' ⟨he, bel⟩ => ?_
  subst he
  exact ⟨_, rfl, _, _, _, [], _, [], hW', trodAll_mk1 (shut_bool Try.underlying4 _), (trodAll_cons_mk (Below.trod laidOut (by kernel_rfl) (of_decide_eq_true (by kernel_rfl)) k1 bel lt1) trodAll_mk0), rfl, bel.frame _, fun h => by cases h⟩

theorem over : Rows.fnRegistryLockThenUnlockReleasesAllRow.holds Try.pinned (OpenSpec.ofChange Rows.fnRegistryLockThenUnlockReleasesAllSpec) :=
  OpenClaim.holds_of_wide 5 Try.f5 rfl rfl rfl rfl rfl rfl rfl ⟨rfl, rfl, rfl, rfl, rfl⟩ rfl rfl rfl rfl rfl (by kernel_rfl) Try.func5 (by kernel_rfl)
    (of_decide_eq_true (by kernel_rfl)) (by unfold Func.isWrapper; first | (rw [if_pos (by decide +kernel)]; kernel_rfl) | (rw [if_neg (by decide +kernel)]; exact ⟨rfl, rfl⟩))
    (fun os started H enc _ => lifted os started H enc)

/-- THE STATEMENT -/
theorem proved : Rows.FnRegistryLockThenUnlockReleasesAllSaid := over
#print axioms proved
end Go.Proofs.Qxb6616406a.fnRegistryLockThenUnlockReleasesAll
