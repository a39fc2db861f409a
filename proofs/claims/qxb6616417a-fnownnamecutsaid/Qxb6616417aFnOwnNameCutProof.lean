/-
  THE SHELL OF A PROOF OF 'Rows.FnOwnNameCutSaid' ('example.com/symbolwalk/symbolwalk/zzlaws_internal_graph_b1.FnOwnNameCut'), WRITTEN BY PROGRAM (proof-skeleton.mjs) off the guide's own print for that function. Not trusted: the kernel checks it.
  THE WALK IS MINE; ALL ELSE IS THE GUIDE's TEMPLATE (howto/template/XProofs.lean) at this function's number and types.
-/
import Derived.Test.Qxb6616417aRows
import Derived.WalkKit
import Derived.ProofKit
import Derived.OpenShut
import Derived.ShutString
import Derived.WalkSpells
import Derived.Outline
import Derived.Test.Qxb6616417aNames
namespace Go.Proofs.Qxb6616417a.fnOwnNameCut
open Go.ChangeShapes Go.WideShapes Go.ChangeAt Go.RowKit
open Go.ChangeMaps (open_string shut_string)
set_option linter.unusedVariables false      -- a walk need not use every 'w<i>' (that an integer argument fits its kind)

theorem own : ownKnob Try.prog.godebug = none := by kernel_rfl

/-! ### STEP 1: THE WALK: the Go text returns true. 'Grown w w'': the world has at most new blocks (Derived/RowKit3.lean). Part the cases AHEAD of 'go_enter' where a test parts the walk; take each callee by a contract of your own. -/

theorem bytes_yes (s : ByteArray) (i : Int) (hl : s.size ≤ 1048576) (w : World) :
    Calls Try.prog 7 #[.string s, .int .i64 i] w fun e w' => e = .returned (.bool true) ∧ w' = w := by
  have h1 : (s.size : Int) ≤ 1048576 := by omega
  go_enter Try.func7, Try.ntmps7
  go_wp2
  go_ret
  exact ⟨rfl, rfl⟩

theorem bytes_no (s : ByteArray) (i : Int) (hl : 1048576 < s.size) (w : World) :
    Calls Try.prog 7 #[.string s, .int .i64 i] w fun e w' => e = .returned (.bool false) ∧ w' = w := by
  have h1 : (1048576 : Int) < (s.size : Int) := by omega
  go_enter Try.func7, Try.ntmps7
  go_wp2
  go_ret
  exact ⟨rfl, rfl⟩

theorem early (s : ByteArray) (i : Int) (hl : 1048576 < s.size) (w : World) :
    Calls Try.prog 3 #[.string s, .int .i64 i] w fun e w' => e = .returned (.bool true) ∧ Grown w w' := by
  go_enter Try.func3, Try.ntmps3
  go_wp2_with (go_at_call 7; refine (bytes_no s i hl _).mono ?_; rintro e w' ⟨rfl, rfl⟩)
  go_ret
  exact ⟨rfl, Grown.refl _⟩

theorem early2 (s : ByteArray) (i : Int) (hl : s.size ≤ 1048576) (hi : i < 0 ∨ (0 ≤ i ∧ (s.size : Int) < i)) (w : World) :
    Calls Try.prog 3 #[.string s, .int .i64 i] w fun e w' => e = .returned (.bool true) ∧ Grown w w' := by
  have h1 : (s.size : Int) ≤ 1048576 := by omega
  rcases hi with hi | ⟨hi, hj⟩
  all_goals
    go_enter Try.func3, Try.ntmps3
    go_wp2_with (go_at_call 7; refine (bytes_yes s i hl _).mono ?_; rintro e w' ⟨rfl, rfl⟩)
    go_ret
    exact ⟨rfl, Grown.refl _⟩

set_option maxRecDepth 20000 in
theorem main_dot (s : ByteArray) (k : Nat) (hl : s.size ≤ 1048576) (hk : k ≤ s.size) (hd : Nm.dot (s.extract k s.size) = true) (w : World) :
    Calls Try.prog 3 #[.string s, .int .i64 k] w fun e w' => e = .returned (.bool true) ∧ Grown w w' := by
  have h1 : (s.size : Int) ≤ 1048576 := by omega
  have h2 : (k : Int) ≤ (s.size : Int) := by omega
  have he := Nm.own_cut_dot s k hk hd
  have hr : (s.extract k s.size).size ≤ 4194304 := by simp; omega
  have HR : Hid ((s.extract k s.size).size ≤ 4194304) := hr
  clear hr
  go_enter Try.func3, Try.ntmps3
  go_wp2_with (go_at_call 7; refine (bytes_yes s _ hl _).mono ?_; rintro e w' ⟨rfl, rfl⟩)
  refine (Nm.own_any s (by omega) _).mono ?_
  rintro e w' ⟨rfl, rfl⟩
  go_wp2_with fail
  refine (Nm.hasDot_any _ HR.out _).mono ?_
  rintro e w' ⟨rfl, rfl⟩
  go_wp2_with fail
  refine (Nm.own_any _ HR.out _).mono ?_
  rintro e w' ⟨rfl, rfl⟩
  go_wp2
  go_ret
  exact ⟨rfl, Grown.refl _⟩

set_option maxRecDepth 20000 in
theorem main_none (s : ByteArray) (k : Nat) (hl : s.size ≤ 1048576) (hk : k ≤ s.size) (hd : Nm.dot (s.extract k s.size) = false) (w : World) :
    Calls Try.prog 3 #[.string s, .int .i64 k] w fun e w' => e = .returned (.bool true) ∧ Grown w w' := by
  have h1 : (s.size : Int) ≤ 1048576 := by omega
  have h2 : (k : Int) ≤ (s.size : Int) := by omega
  have he := Nm.own_cut_none s k hk hd
  have HR : Hid ((s.extract k s.size).size ≤ 4194304) := by show _ ≤ _; simp; omega
  have HL : Hid ((s.extract 0 k).size ≤ 4194304) := by show _ ≤ _; simp; omega
  have hb : ¬ 9223372036854775807 < (Nm.own (s.extract 0 k)).size + (s.size - k) := by
    have := Nm.own_le (s.extract 0 k)
    have := HL.out
    omega
  go_enter Try.func3, Try.ntmps3
  go_wp2_with (go_at_call 7; refine (bytes_yes s _ hl _).mono ?_; rintro e w' ⟨rfl, rfl⟩)
  refine (Nm.own_any s (by omega) _).mono ?_
  rintro e w' ⟨rfl, rfl⟩
  go_wp2_with fail
  refine (Nm.hasDot_any _ HR.out _).mono ?_
  rintro e w' ⟨rfl, rfl⟩
  go_wp2_with fail
  refine (Nm.own_any _ HL.out _).mono ?_
  rintro e w' ⟨rfl, rfl⟩
  go_wp2
  go_ret
  exact ⟨rfl, Grown.refl _⟩

theorem walk (a0 : ByteArray) (a1 : Int) (w0 : a0.size ≤ maxLen) (w1 : (Lit.int .i64 a1).wf = true) (w : World) :
    Calls Try.prog 3 #[.string a0, .int .i64 a1] w fun e w' => e = .returned (.bool true) ∧ Grown w w' := by
  by_cases hl : 1048576 < a0.size
  · exact early a0 a1 hl w
  by_cases hi : a1 < 0 ∨ (0 ≤ a1 ∧ (a0.size : Int) < a1)
  · exact early2 a0 a1 (by omega) hi w
  obtain ⟨k, rfl⟩ := Int.eq_ofNat_of_zero_le (a := a1) (by omega)
  cases hd : Nm.dot (a0.extract k a0.size) with
  | true => exact main_dot a0 k (by omega) (by omega) hd w
  | false => exact main_none a0 k (by omega) (by omega) hd w

/-! ### THE ROW's STEP: WRITTEN OUT: LEAVE IT -/
set_option maxRecDepth 100000 in
theorem lifted (os : Os) (started : os.Started) (H : Type) (enc : TypeId × Value → H) :
    ReturnsInHanded {} Try.checked os 3 .any (Rows.fnOwnNameCutSpec.pre6 enc Try.prog Try.f3 Rows.fnOwnNameCutRow.domain false) (Rows.fnOwnNameCutSpec.post enc Try.prog Try.f3 false true false false) := by
  refine returnsInHanded_of_change (C := Try.checked) own started (by kernel_rfl) Try.func3
    (ChangeSpec.witness6 (enc := enc) (C := Try.checked) false ⟨#[], #[.string ByteArray.empty, .int .i64 0], []⟩ 8 (by kernel_rfl) (by kernel_rfl) (by kernel_rfl) (by kernel_rfl)) ?_
  intro W base args ds gs before hval0 hW hcnd _
  have hval : ∀ (j : Nat) t v, Try.f3.params[j]? = some t → args[j]? = some v → Value.okWide Try.prog W .any base t v := hval0
  have hW' := hW
  obtain ⟨p, q, hA0, hV, rfl, hfz, hnd⟩ := hW
  have hA : DataW.TrodAll enc Try.prog W 0 (fun _ => true) true Try.f3.params.toList args.toList ds p := hA0
  rw [Try.params3] at hA hval
  obtain ⟨v0, vs0, d0, ds0, p0, q0, hargs, rfl, rfl, h0, r0⟩ := trodAll_cons hA
  obtain ⟨v1, vs1, d1, ds1, p1, q1, rfl, rfl, rfl, h1, r1⟩ := trodAll_cons r0
  obtain ⟨rfl, rfl, rfl⟩ := trodAll_nil r1
  obtain rfl : args = #[v0, v1] := by cases args; simp_all
  obtain ⟨rfl, rfl⟩ := trodVars_none hV
  obtain ⟨a0, rfl, rfl, rfl, w0⟩ := open_string Try.underlying9 (hval 0 9 v0 rfl rfl) h0
  obtain ⟨a1, rfl, rfl, rfl, w1⟩ := open_int Try.underlying3 (hval 1 3 v1 rfl rfl) h1
  clear hA0 hval0
  simp only [List.append_nil] at hW'
  refine (walk a0 a1 w0 w1 W).mono fun e W' ⟨he, hg⟩ => ?_
  subst he
  exact ⟨_, rfl, post_of_same (pa := []) (pv := []) hW' (fun _ _ _ => (trodAll_cons_mk (shut_bool Try.underlying4 _) trodAll_mk0)) (fun sp _ => (trodAll_cons_mk (shut_string Try.underlying9 w0) (trodAll_cons_mk (shut_int Try.underlying3 w1) trodAll_mk0))) (fun _ _ => rfl) rfl
    (hg.frame _) hg.2.1 (ok_one (by kernel_rfl) rfl (okWide_bool_mk Try.underlying4 _))⟩

theorem over : Rows.fnOwnNameCutRow.holds Try.pinned (OpenSpec.ofChange Rows.fnOwnNameCutSpec) :=
  OpenClaim.holds_of_wide 3 Try.f3 rfl rfl rfl rfl rfl rfl rfl ⟨rfl, rfl, rfl, rfl, rfl⟩ rfl rfl rfl rfl rfl (by kernel_rfl) Try.func3 (by kernel_rfl)
    (of_decide_eq_true (by kernel_rfl)) (by unfold Func.isWrapper; first | (rw [if_pos (by decide +kernel)]; kernel_rfl) | (rw [if_neg (by decide +kernel)]; exact ⟨rfl, rfl⟩))
    (fun os started H enc _ => lifted os started H enc)

/-- ████ THE STATEMENT ████ -/
theorem proved : Rows.FnOwnNameCutSaid :=
  over
#print axioms proved
end Go.Proofs.Qxb6616417a.fnOwnNameCut
