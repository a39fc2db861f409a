/-
  THE SHELL OF A PROOF OF 'Rows.FnOwnNameUnderQualifierSaid' ('example.com/symbolwalk/symbolwalk/zzlaws_internal_graph_b1.FnOwnNameUnderQualifier'), WRITTEN BY PROGRAM (proof-skeleton.mjs) off the guide's own print for that function. Not trusted: the kernel checks it.
  THE WALK IS MINE; ALL ELSE IS THE GUIDE's TEMPLATE (howto/template/XProofs.lean) at this function's number and types.
-/
import Derived.Test.Qxb6616417aRows
import Derived.WalkKit
import Derived.ProofKit
import Derived.OpenShut
import Derived.ShutString
import Derived.WalkSpells
import Derived.Outline
import Derived.Test.Qxb6616417aNames
namespace Go.Proofs.Qxb6616417a.fnOwnNameUnderQualifier
open Go.ChangeShapes Go.WideShapes Go.ChangeAt Go.RowKit
open Go.ChangeMaps (open_string shut_string)
set_option linter.unusedVariables false      -- a walk need not use every 'w<i>' (that an integer argument fits its kind)

theorem own : ownKnob Try.prog.godebug = none := by kernel_rfl

/-! ### STEP 1: THE WALK: the Go text returns true. 'Grown w w'': the world has at most new blocks (Derived/RowKit3.lean). Part the cases AHEAD of 'go_enter' where a test parts the walk; take each callee by a contract of your own. -/

/-- zzBytes: yes where the two lengths add up to at most 1<<20. -/
theorem bytes_yes (s t : ByteArray) (hl : s.size + t.size ≤ 1048576) (w : World) :
    Calls Try.prog 10 #[.string s, .string t] w fun e w' => e = .returned (.bool true) ∧ w' = w := by
  have h1 : (s.size : Int) + (t.size : Int) ≤ 1048576 := by omega
  have h2 : (s.size : Int) ≤ 1048576 := by omega
  have h3 : (t.size : Int) ≤ 1048576 := by omega
  go_enter Try.func10, Try.ntmps10
  go_wp2
  go_ret
  exact ⟨rfl, rfl⟩

theorem bytes_no (s t : ByteArray) (hs : s.size ≤ maxLen) (ht : t.size ≤ maxLen) (hl : 1048576 < s.size + t.size) (w : World) :
    Calls Try.prog 10 #[.string s, .string t] w fun e w' => e = .returned (.bool false) ∧ w' = w := by
  unfold maxLen at hs ht
  by_cases h2 : 1048576 < s.size
  · have h2' : (1048576 : Int) < (s.size : Int) := by omega
    go_enter Try.func10, Try.ntmps10
    go_wp2
    go_ret
    exact ⟨rfl, rfl⟩
  · have h2' : (s.size : Int) ≤ 1048576 := by omega
    by_cases h3 : 1048576 < t.size
    · have h3' : (1048576 : Int) < (t.size : Int) := by omega
      go_enter Try.func10, Try.ntmps10
      go_wp2
      go_ret
      exact ⟨rfl, rfl⟩
    · have h3' : (t.size : Int) ≤ 1048576 := by omega
      have h1 : (1048576 : Int) < (s.size : Int) + (t.size : Int) := by omega
      go_enter Try.func10, Try.ntmps10
      go_wp2
      go_ret
      exact ⟨rfl, rfl⟩

theorem early (s t : ByteArray) (hs : s.size ≤ maxLen) (ht : t.size ≤ maxLen) (hl : 1048576 < s.size + t.size) (w : World) :
    Calls Try.prog 4 #[.string s, .string t] w fun e w' => e = .returned (.bool true) ∧ Grown w w' := by
  go_enter Try.func4, Try.ntmps4
  go_wp2_with (go_at_call 10; refine (bytes_no s t hs ht hl _).mono ?_; rintro e w' ⟨rfl, rfl⟩)
  go_ret
  exact ⟨rfl, Grown.refl _⟩

theorem early2 (s t : ByteArray) (hl : s.size + t.size ≤ 1048576) (h : 524288 < s.size ∨ (s.size ≤ 524288 ∧ 524288 < t.size)) (w : World) :
    Calls Try.prog 4 #[.string s, .string t] w fun e w' => e = .returned (.bool true) ∧ Grown w w' := by
  rcases h with h | ⟨h, g⟩
  · have h' : (524288 : Int) < (s.size : Int) := by omega
    go_enter Try.func4, Try.ntmps4
    go_wp2_with (go_at_call 10; refine (bytes_yes s t hl _).mono ?_; rintro e w' ⟨rfl, rfl⟩)
    go_ret
    exact ⟨rfl, Grown.refl _⟩
  · have h' : (s.size : Int) ≤ 524288 := by omega
    have g' : (524288 : Int) < (t.size : Int) := by omega
    go_enter Try.func4, Try.ntmps4
    go_wp2_with (go_at_call 10; refine (bytes_yes s t hl _).mono ?_; rintro e w' ⟨rfl, rfl⟩)
    go_ret
    exact ⟨rfl, Grown.refl _⟩

set_option maxRecDepth 20000 in
theorem main_none (s t : ByteArray) (h : s.size ≤ 524288) (g : t.size ≤ 524288) (hd : Nm.dot t = false) (w : World) :
    Calls Try.prog 4 #[.string s, .string t] w fun e w' => e = .returned (.bool true) ∧ Grown w w' := by
  have h' : (s.size : Int) ≤ 524288 := by omega
  have g' : (t.size : Int) ≤ 524288 := by omega
  have he := Nm.own_under s t
  have ho := Nm.own_none t hd
  have HR : Hid ((s ++ ⟨#[46]⟩ ++ t).size ≤ 4194304) := by show _ ≤ _; simp only [ByteArray.size_append]; show s.size + 1 + t.size ≤ _; omega
  go_enter Try.func4, Try.ntmps4
  go_wp2_with (go_at_call 10; refine (bytes_yes s t (by omega) _).mono ?_; rintro e w' ⟨rfl, rfl⟩)
  refine (Nm.own_any _ HR.out _).mono ?_
  rintro e w' ⟨rfl, rfl⟩
  go_wp2_with fail
  refine (Nm.own_any t (by omega) _).mono ?_
  rintro e w' ⟨rfl, rfl⟩
  go_wp2_with fail
  refine (Nm.hasDot_any t (by omega) _).mono ?_
  rintro e w' ⟨rfl, rfl⟩
  go_wp2
  go_ret
  exact ⟨rfl, Grown.refl _⟩

set_option maxRecDepth 20000 in
theorem main_dot (s t : ByteArray) (h : s.size ≤ 524288) (g : t.size ≤ 524288) (hd : Nm.dot t = true) (w : World) :
    Calls Try.prog 4 #[.string s, .string t] w fun e w' => e = .returned (.bool true) ∧ Grown w w' := by
  have h' : (s.size : Int) ≤ 524288 := by omega
  have g' : (t.size : Int) ≤ 524288 := by omega
  have he := Nm.own_under s t
  have ho := Nm.own_shorter t hd
  have HR : Hid ((s ++ ⟨#[46]⟩ ++ t).size ≤ 4194304) := by show _ ≤ _; simp only [ByteArray.size_append]; show s.size + 1 + t.size ≤ _; omega
  go_enter Try.func4, Try.ntmps4
  go_wp2_with (go_at_call 10; refine (bytes_yes s t (by omega) _).mono ?_; rintro e w' ⟨rfl, rfl⟩)
  refine (Nm.own_any _ HR.out _).mono ?_
  rintro e w' ⟨rfl, rfl⟩
  go_wp2_with fail
  refine (Nm.own_any t (by omega) _).mono ?_
  rintro e w' ⟨rfl, rfl⟩
  go_wp2_with fail
  refine (Nm.hasDot_any t (by omega) _).mono ?_
  rintro e w' ⟨rfl, rfl⟩
  go_wp2
  go_ret
  exact ⟨rfl, Grown.refl _⟩

theorem walk (a0 : ByteArray) (a1 : ByteArray) (w0 : a0.size ≤ maxLen) (w1 : a1.size ≤ maxLen) (w : World) :
    Calls Try.prog 4 #[.string a0, .string a1] w fun e w' => e = .returned (.bool true) ∧ Grown w w' := by
  by_cases hl : 1048576 < a0.size + a1.size
  · exact early a0 a1 w0 w1 hl w
  by_cases h2 : 524288 < a0.size ∨ (a0.size ≤ 524288 ∧ 524288 < a1.size)
  · exact early2 a0 a1 (by omega) h2 w
  cases hd : Nm.dot a1 with
  | true => exact main_dot a0 a1 (by omega) (by omega) hd w
  | false => exact main_none a0 a1 (by omega) (by omega) hd w

/-! ### THE ROW's STEP: WRITTEN OUT: LEAVE IT -/
set_option maxRecDepth 100000 in
theorem lifted (os : Os) (started : os.Started) (H : Type) (enc : TypeId × Value → H) :
    ReturnsInHanded {} Try.checked os 4 .any (Rows.fnOwnNameUnderQualifierSpec.pre6 enc Try.prog Try.f4 Rows.fnOwnNameUnderQualifierRow.domain false) (Rows.fnOwnNameUnderQualifierSpec.post enc Try.prog Try.f4 false true false false) := by
  refine returnsInHanded_of_change (C := Try.checked) own started (by kernel_rfl) Try.func4
    (ChangeSpec.witness6 (enc := enc) (C := Try.checked) false ⟨#[], #[.string ByteArray.empty, .string ByteArray.empty], []⟩ 8 (by kernel_rfl) (by kernel_rfl) (by kernel_rfl) (by kernel_rfl)) ?_
  intro W base args ds gs before hval0 hW hcnd _
  have hval : ∀ (j : Nat) t v, Try.f4.params[j]? = some t → args[j]? = some v → Value.okWide Try.prog W .any base t v := hval0
  have hW' := hW
  obtain ⟨p, q, hA0, hV, rfl, hfz, hnd⟩ := hW
  have hA : DataW.TrodAll enc Try.prog W 0 (fun _ => true) true Try.f4.params.toList args.toList ds p := hA0
  rw [Try.params4] at hA hval
  obtain ⟨v0, vs0, d0, ds0, p0, q0, hargs, rfl, rfl, h0, r0⟩ := trodAll_cons hA
  obtain ⟨v1, vs1, d1, ds1, p1, q1, rfl, rfl, rfl, h1, r1⟩ := trodAll_cons r0
  obtain ⟨rfl, rfl, rfl⟩ := trodAll_nil r1
  obtain rfl : args = #[v0, v1] := by cases args; simp_all
  obtain ⟨rfl, rfl⟩ := trodVars_none hV
  obtain ⟨a0, rfl, rfl, rfl, w0⟩ := open_string Try.underlying9 (hval 0 9 v0 rfl rfl) h0
  obtain ⟨a1, rfl, rfl, rfl, w1⟩ := open_string Try.underlying9 (hval 1 9 v1 rfl rfl) h1
  clear hA0 hval0
  simp only [List.append_nil] at hW'
  refine (walk a0 a1 w0 w1 W).mono fun e W' ⟨he, hg⟩ => ?_
  subst he
  exact ⟨_, rfl, post_of_same (pa := []) (pv := []) hW' (fun _ _ _ => (trodAll_cons_mk (shut_bool Try.underlying4 _) trodAll_mk0)) (fun sp _ => (trodAll_cons_mk (shut_string Try.underlying9 w0) (trodAll_cons_mk (shut_string Try.underlying9 w1) trodAll_mk0))) (fun _ _ => rfl) rfl
    (hg.frame _) hg.2.1 (ok_one (by kernel_rfl) rfl (okWide_bool_mk Try.underlying4 _))⟩

theorem over : Rows.fnOwnNameUnderQualifierRow.holds Try.pinned (OpenSpec.ofChange Rows.fnOwnNameUnderQualifierSpec) :=
  OpenClaim.holds_of_wide 4 Try.f4 rfl rfl rfl rfl rfl rfl rfl ⟨rfl, rfl, rfl, rfl, rfl⟩ rfl rfl rfl rfl rfl (by kernel_rfl) Try.func4 (by kernel_rfl)
    (of_decide_eq_true (by kernel_rfl)) (by unfold Func.isWrapper; first | (rw [if_pos (by decide +kernel)]; kernel_rfl) | (rw [if_neg (by decide +kernel)]; exact ⟨rfl, rfl⟩))
    (fun os started H enc _ => lifted os started H enc)

/-- ████ THE STATEMENT ████ -/
theorem proved : Rows.FnOwnNameUnderQualifierSaid :=
  over
#print axioms proved
end Go.Proofs.Qxb6616417a.fnOwnNameUnderQualifier
