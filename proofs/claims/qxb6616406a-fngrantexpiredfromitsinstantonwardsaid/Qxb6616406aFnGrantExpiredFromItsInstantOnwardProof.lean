/-
  THE SHELL OF A PROOF OF 'Rows.FnGrantExpiredFromItsInstantOnwardSaid' ('example.com/catalog-to-binding/catalog-to-binding/zzlaws_root_b1.FnGrantExpiredFromItsInstantOnward'), WRITTEN BY PROGRAM (proof-skeleton.mjs, third state) off the guide's own print for that function. Not trusted: the kernel checks it.
  THE WALK IS MINE; ALL ELSE IS THE GUIDE's OWN WAY (howto/template/XProofs.lean; Derived/Test/ChunkProofs.lean for 'Below') at this function's number and types.
-/
import Derived.Test.Qxb6616406aRows
import Derived.WalkKit
import Derived.ProofKit
import Derived.OpenShut
import Derived.ShutString
import Derived.ChangeOld
import Derived.Below
import Derived.WalkSpells
import Derived.Deep.OwnRows
import Derived.Laws.CopyOwn
import Derived.Test.Qxb6616406aTime
namespace Go.Proofs.Qxb6616406a.fnGrantExpiredFromItsInstantOnward
open Go.ChangeShapes Go.WideShapes Go.ChangeAt Go.RowKit
open Go.ChangeMaps (open_string shut_string)
set_option linter.unusedVariables false

theorem own : ownKnob Try.prog.godebug = none := by kernel_rfl
theorem laidOut : laidOutB Try.prog = true := by kernel_rfl

/-- WHAT THE WALK IS TOLD OF A SLICE OF INTEGERS THAT CAME IN: it is nil; or it leads to a row of 'cap' cells, the numbers 'zs' (the first 'len' are its elements, the rest its spare room), each fitting its kind. -/
def IsRow (k : IntKind) (w : World) (a : Option Addr) (len cap : Nat) (zs : List Int) : Prop :=
  (a = none ∧ len = 0 ∧ cap = 0 ∧ zs = []) ∨
  ∃ x, a = some x ∧ len ≤ cap ∧ cap ≤ maxLen ∧ zs.length = cap ∧ (∀ i, i < zs.length → w.cell? (x.add i) = some (.int k (zs.getD i 0))) ∧ ∀ n ∈ zs, (Lit.int k n).wf = true

/-! ### STEP 1: THE WALK: the Go text returns true, AND WRITES NOTHING THAT WAS THERE: 'Below w.heap.size w w'' (Derived/Below.lean: '.refl', '.alloc', '.drew', '.setCell' at a new block, '.trans'). Open each 'IsRow' by 'rcases' AHEAD of 'go_enter'; part every test ahead of the walk. -/

theorem bytes_yes (a : Option Addr) (l c : Nat) (x1 x2 x3 x4 : Int) (hl : l ≤ 1048576) (w : World) :
    Calls Try.prog 6 #[.slice a l c, .int .i64 x1, .int .i64 x2, .int .i64 x3, .int .i64 x4] w fun e w' => e = .returned (.bool true) ∧ w' = w := by
  have h1 : (l : Int) ≤ 1048576 := by omega
  go_enter Try.func6, Try.ntmps6
  go_wp2
  go_ret
  exact ⟨rfl, rfl⟩

theorem bytes_no (a : Option Addr) (l c : Nat) (x1 x2 x3 x4 : Int) (hl : 1048576 < l) (w : World) :
    Calls Try.prog 6 #[.slice a l c, .int .i64 x1, .int .i64 x2, .int .i64 x3, .int .i64 x4] w fun e w' => e = .returned (.bool false) ∧ w' = w := by
  have h1 : (1048576 : Int) < (l : Int) := by omega
  go_enter Try.func6, Try.ntmps6
  go_wp2
  go_ret
  exact ⟨rfl, rfl⟩

theorem early (a : Option Addr) (l c : Nat) (x1 x2 x3 x4 : Int) (hl : 1048576 < l) (w : World) :
    Calls Try.prog 3 #[.slice a l c, .int .i64 x1, .int .i64 x2, .int .i64 x3, .int .i64 x4] w fun e w' => e = .returned (.bool true) ∧ Below w.heap.size w w' := by
  go_enter Try.func3, Try.ntmps3
  go_wp2_with (go_at_call 6; refine (bytes_no a l c x1 x2 x3 x4 hl _).mono ?_; rintro e w' ⟨rfl, rfl⟩)
  go_ret
  exact ⟨rfl, Below.refl _ _⟩

theorem early2 (a : Option Addr) (l c : Nat) (x1 x2 x3 x4 : Int) (hl : l ≤ 1048576) (he : x1 = 0 ∨ x1 = -9223372036854775808) (w : World) :
    Calls Try.prog 3 #[.slice a l c, .int .i64 x1, .int .i64 x2, .int .i64 x3, .int .i64 x4] w fun e w' => e = .returned (.bool true) ∧ Below w.heap.size w w' := by
  have h1 : (l : Int) ≤ 1048576 := by omega
  rcases he with rfl | rfl
  all_goals
    go_enter Try.func3, Try.ntmps3
    go_wp2_with (go_at_call 6; refine (bytes_yes a l c _ x2 x3 x4 hl _).mono ?_; rintro e w' ⟨rfl, rfl⟩)
    go_ret
    exact ⟨rfl, Below.refl _ _⟩

theorem chain4 {w w1 w2 w3 w4 : World} (k1 : Below w.heap.size w w1) (k2 : Below w1.heap.size w1 w2) (k3 : Below w2.heap.size w2 w3) (k4 : Below w3.heap.size w3 w4) : Below w.heap.size w w4 := by
  have a := k1.trans (k2.mono k1.size)
  have b := a.trans (k3.mono a.size)
  exact b.trans (k4.mono b.size)

theorem infoE : (Try.prog.info? 5).map (fun i => (i.zero, i.size, i.bytes)) = some (some (.int .u8 0), 1, 1) := by kernel_rfl
theorem sizeE : (Try.prog.info? 5).map (·.size) = some 1 := by kernel_rfl

/-- The two instants' order, and what the grant says at each. -/
def Way (x1 x3 x4 : Int) : Prop :=
  (x4 < x3 ∧ Tm.exp x1 x4 = false) ∨ (x4 < x3 ∧ Tm.exp x1 x4 = true ∧ Tm.exp x1 x3 = true) ∨ (x3 ≤ x4 ∧ Tm.exp x1 x3 = false) ∨ (x3 ≤ x4 ∧ Tm.exp x1 x3 = true ∧ Tm.exp x1 x4 = true)

theorem way (x1 x3 x4 : Int) : Way x1 x3 x4 := by
  unfold Way Tm.exp
  split
  · simp; omega
  · simp; omega

theorem exp_self (x : Int) (h : ¬ x = 0) : Tm.exp x x = true := by unfold Tm.exp; rw [if_neg h]; simp
theorem exp_before (x : Int) : Tm.exp x (x - 1) = false := by unfold Tm.exp; split; rfl; simp; omega

set_option maxHeartbeats 2000000 in
theorem main_nil (x1 x2 x3 x4 : Int) (w : World) (b1 : -9223372036854775808 < x1 ∧ x1 ≤ 9223372036854775807) (b2 : -9223372036854775808 ≤ x2 ∧ x2 ≤ 9223372036854775807) (b3 : -9223372036854775808 ≤ x3 ∧ x3 ≤ 9223372036854775807) (b4 : -9223372036854775808 ≤ x4 ∧ x4 ≤ 9223372036854775807)
    (hz : (x1 == 0) = false) (hm : (x1 == -9223372036854775808) = false) (hw : Way x1 x3 x4) (q1 : Tm.exp x1 x1 = true) (q2 : Tm.exp x1 (x1 - 1) = false) :
    Calls Try.prog 3 #[.slice none 0 0, .int .i64 x1, .int .i64 x2, .int .i64 x3, .int .i64 x4] w fun e w' => e = .returned (.bool true) ∧ Below w.heap.size w w' := by
  have kn := fun a n c w => run_neq_slice_nil_any (P := Try.prog) w 22 5 a n c 0 0 Try.underlying22
  obtain ⟨b10, b11⟩ := b1
  obtain ⟨b20, b21⟩ := b2
  obtain ⟨b30, b31⟩ := b3
  obtain ⟨b40, b41⟩ := b4
  rcases hw with ⟨hs, q3⟩ | ⟨hs, q3, q4⟩ | ⟨hs, q3⟩ | ⟨hs, q3, q4⟩
  all_goals
    go_enter Try.func3, Try.ntmps3
    go_wp2_with (go_at_call 6; refine (bytes_yes _ 0 0 _ _ _ _ (by omega) _).mono ?_; rintro e w' ⟨rfl, rfl⟩)
    refine (Tm.grant_any _ _ _ _ _ _ ⟨by omega, by omega⟩ ⟨by omega, by omega⟩ ⟨by omega, by omega⟩ _).mono ?_
    rintro e w1 ⟨rfl, k1⟩
    go_wp2_with fail
    refine (Tm.grant_any _ _ _ _ _ _ ⟨by omega, by omega⟩ ⟨by omega, by omega⟩ ⟨by omega, by omega⟩ _).mono ?_
    rintro e w2 ⟨rfl, k2⟩
    go_wp2_with fail
    refine (Tm.grant_any _ _ _ _ _ _ ⟨by omega, by omega⟩ ⟨by omega, by omega⟩ ⟨by omega, by omega⟩ _).mono ?_
    rintro e w3 ⟨rfl, k3⟩
    go_wp2_with fail
    refine (Tm.grant_any _ _ _ _ _ _ ⟨by omega, by omega⟩ ⟨by omega, by omega⟩ ⟨by omega, by omega⟩ _).mono ?_
    rintro e w4 ⟨rfl, k4⟩
    go_wp2
    go_ret
    exact ⟨rfl, chain4 k1 k2 k3 k4⟩

/-- The copy first: a new row at the heap's end; nothing old turns. -/
theorem copied (x : Addr) (len cap : Nat) (zs : List Int) (w : World) (hl : len ≤ cap) (hz0 : zs.length = cap) (hcell : ∀ i, i < zs.length → w.cell? (x.add i) = some (.int .u8 (zs.getD i 0))) :
    ∃ w0, (∀ ty, (Builtin.copy_ #[22, 22] ty #[.slice (some ⟨w.heap.size, 0, none⟩) len len, .slice (some x) len cap]).run Try.prog (w.alloc (.cells (madeCells #[.int .u8 0] len) 5)) = .ok (goInt len) w0) ∧ Below w.heap.size w w0 := by
  have hcl : ((zs.take len).map (Value.int .u8)).length = len := by simp; omega
  have b0 : Below w.heap.size w (w.alloc (.cells (madeCells #[.int .u8 0] len) 5)) := (Below.refl _ _).alloc (Nat.le_refl _) _
  refine ⟨_, fun ty => (run_copy_row (P := Try.prog) _ 22 22 ty 5 w.heap.size 0 len len x len cap (madeCells #[.int .u8 0] len) 5 ((zs.take len).map (Value.int .u8)) Try.underlying22 sizeE (by show (w.heap.push _)[w.heap.size]? = _; simp) (by rw [hcl]; simp) ?_ (by rw [hcl, size_madeCells]; omega) ?_).trans (by rw [hcl]), below_setRow b0 (Nat.le_refl _) _⟩
  · intro j v hj
    simp only [List.getElem?_map, Option.map_eq_some_iff] at hj
    obtain ⟨z, hz, rfl⟩ := hj
    rw [List.getElem?_take] at hz
    split at hz
    · have hc := hcell j (by omega)
      have hlt : (x.add j).block < w.heap.size := World.block_lt_of_cell? w (x.add j) hc
      rw [b0.cell hlt, hc]
      simp [List.getD, hz]
    · cases hz
  · intro v hv
    obtain ⟨z, _, rfl⟩ := List.mem_map.1 hv
    rfl

set_option maxRecDepth 20000 in
set_option maxHeartbeats 2000000 in
theorem main_row (x : Addr) (len cap : Nat) (x1 x2 x3 x4 : Int) (w w0 : World) (hlen : len ≤ 1048576)
    (kc : ∀ ty, (Builtin.copy_ #[22, 22] ty #[.slice (some ⟨w.heap.size, 0, none⟩) len len, .slice (some x) len cap]).run Try.prog (w.alloc (.cells (madeCells #[.int .u8 0] len) 5)) = .ok (goInt len) w0) (hB : Below w.heap.size w w0)
    (b1 : -9223372036854775808 < x1 ∧ x1 ≤ 9223372036854775807) (b2 : -9223372036854775808 ≤ x2 ∧ x2 ≤ 9223372036854775807) (b3 : -9223372036854775808 ≤ x3 ∧ x3 ≤ 9223372036854775807) (b4 : -9223372036854775808 ≤ x4 ∧ x4 ≤ 9223372036854775807)
    (hz : (x1 == 0) = false) (hm : (x1 == -9223372036854775808) = false) (hw : Way x1 x3 x4) (q1 : Tm.exp x1 x1 = true) (q2 : Tm.exp x1 (x1 - 1) = false) :
    Calls Try.prog 3 #[.slice (some x) len cap, .int .i64 x1, .int .i64 x2, .int .i64 x3, .int .i64 x4] w fun e w' => e = .returned (.bool true) ∧ Below w.heap.size w w' := by
  have kn := fun a n c w => run_neq_slice_nil_any (P := Try.prog) w 22 5 a n c 0 0 Try.underlying22
  have km := fun w => run_make_row' (P := Try.prog) 22 5 (.int .u8 0) 1 Try.underlying22 infoE rfl .i64 .i64 len (by omega) (by omega) w
  have hlI : (len : Int) ≤ 1048576 := by omega
  have HL : Hid (len ≤ 1048576) := hlen
  clear hlen
  obtain ⟨b10, b11⟩ := b1
  obtain ⟨b20, b21⟩ := b2
  obtain ⟨b30, b31⟩ := b3
  obtain ⟨b40, b41⟩ := b4
  rcases hw with ⟨hs, q3⟩ | ⟨hs, q3, q4⟩ | ⟨hs, q3⟩ | ⟨hs, q3, q4⟩
  all_goals
    go_enter Try.func3, Try.ntmps3
    go_wp2_with (go_at_call 6; refine (bytes_yes _ _ _ _ _ _ _ HL.out _).mono ?_; rintro e w' ⟨rfl, rfl⟩)
    refine (Tm.grant_any _ _ _ _ _ _ ⟨by omega, by omega⟩ ⟨by omega, by omega⟩ ⟨by omega, by omega⟩ _).mono ?_
    rintro e w1 ⟨rfl, k1⟩
    go_wp2_with fail
    refine (Tm.grant_any _ _ _ _ _ _ ⟨by omega, by omega⟩ ⟨by omega, by omega⟩ ⟨by omega, by omega⟩ _).mono ?_
    rintro e w2 ⟨rfl, k2⟩
    go_wp2_with fail
    refine (Tm.grant_any _ _ _ _ _ _ ⟨by omega, by omega⟩ ⟨by omega, by omega⟩ ⟨by omega, by omega⟩ _).mono ?_
    rintro e w3 ⟨rfl, k3⟩
    go_wp2_with fail
    refine (Tm.grant_any _ _ _ _ _ _ ⟨by omega, by omega⟩ ⟨by omega, by omega⟩ ⟨by omega, by omega⟩ _).mono ?_
    rintro e w4 ⟨rfl, k4⟩
    go_wp2
    go_ret
    have c4 := chain4 k1 k2 k3 k4
    exact ⟨rfl, hB.trans (c4.mono hB.size)⟩

theorem walk (a0 : Option Addr) (len0 cap0 : Nat) (z0 : List Int) (a1 : Int) (a2 : Int) (a3 : Int) (a4 : Int) (w : World) (w0 : IsRow .u8 w a0 len0 cap0 z0) (w1 : (Lit.int .i64 a1).wf = true) (w2 : (Lit.int .i64 a2).wf = true) (w3 : (Lit.int .i64 a3).wf = true) (w4 : (Lit.int .i64 a4).wf = true) :
    Calls Try.prog 3 #[.slice a0 len0 cap0, .int .i64 a1, .int .i64 a2, .int .i64 a3, .int .i64 a4] w fun e w' => e = .returned (.bool true) ∧ Below w.heap.size w w' := by
  have b1 := bounds_i64 w1
  have b2 := bounds_i64 w2
  have b3 := bounds_i64 w3
  have b4 := bounds_i64 w4
  by_cases hlen : 1048576 < len0
  · exact early a0 len0 cap0 a1 a2 a3 a4 hlen w
  by_cases he : a1 = 0 ∨ a1 = -9223372036854775808
  · exact early2 a0 len0 cap0 a1 a2 a3 a4 (by omega) he w
  have hz : (a1 == 0) = false := by simp; omega
  have hm : (a1 == -9223372036854775808) = false := by rw [beq_eq_false_iff_ne]; omega
  rcases w0 with ⟨rfl, rfl, rfl, rfl⟩ | ⟨x, rfl, hl, _, hz0, hcell, _⟩
  · exact main_nil a1 a2 a3 a4 w (by omega) b2 b3 b4 hz hm (way a1 a3 a4) (exp_self a1 (by omega)) (exp_before a1)
  · obtain ⟨w0, kc, hB⟩ := copied x len0 cap0 z0 w hl hz0 hcell
    exact main_row x len0 cap0 a1 a2 a3 a4 w w0 (by omega) kc hB (by omega) b2 b3 b4 hz hm (way a1 a3 a4) (exp_self a1 (by omega)) (exp_before a1)

/-! ### THE ROW's STEP: WRITTEN OUT: LEAVE IT -/
set_option maxRecDepth 100000 in
theorem lifted (os : Os) (started : os.Started) (H : Type) (enc : TypeId × Value → H) :
    ReturnsInHanded {} Try.checked os 3 .any (Rows.fnGrantExpiredFromItsInstantOnwardSpec.pre6 enc Try.prog Try.f3 Rows.fnGrantExpiredFromItsInstantOnwardRow.domain false) (Rows.fnGrantExpiredFromItsInstantOnwardSpec.post enc Try.prog Try.f3 false true false false) := by
  refine returnsInHanded_of_change (C := Try.checked) own started (by kernel_rfl) Try.func3
    (ChangeSpec.witness6 (enc := enc) (C := Try.checked) false ⟨#[], #[.slice none 0 0, .int .i64 0, .int .i64 0, .int .i64 0, .int .i64 0], []⟩ 8 (by kernel_rfl) (by kernel_rfl) (by kernel_rfl) (by kernel_rfl)) ?_
  intro W base args ds gs before hval0 hW hcnd _
  have hval : ∀ (j : Nat) t v, Try.f3.params[j]? = some t → args[j]? = some v → Value.okWide Try.prog W .any base t v := hval0
  have hW' := hW
  obtain ⟨p, q, hA0, hV, rfl, hfz, hnd⟩ := hW
  have hA : DataW.TrodAll enc Try.prog W 0 (fun _ => true) true Try.f3.params.toList args.toList ds p := hA0
  rw [Try.params3] at hA hval
  obtain ⟨v0, vs0, d0, ds0, p0, q0, hargs, rfl, rfl, h0, r0⟩ := trodAll_cons hA
  obtain ⟨v1, vs1, d1, ds1, p1, q1, rfl, rfl, rfl, h1, r1⟩ := trodAll_cons r0
  obtain ⟨v2, vs2, d2, ds2, p2, q2, rfl, rfl, rfl, h2, r2⟩ := trodAll_cons r1
  obtain ⟨v3, vs3, d3, ds3, p3, q3, rfl, rfl, rfl, h3, r3⟩ := trodAll_cons r2
  obtain ⟨v4, vs4, d4, ds4, p4, q4, rfl, rfl, rfl, h4, r4⟩ := trodAll_cons r3
  obtain ⟨rfl, rfl, rfl⟩ := trodAll_nil r4
  obtain rfl : args = #[v0, v1, v2, v3, v4] := by cases args; simp_all
  obtain ⟨rfl, rfl⟩ := trodVars_none hV
  obtain ⟨a0, len0, cap0, rfl⟩ := okWide_slice Try.underlying22 (hval 0 22 v0 rfl rfl)
  have k0 := h0
  have lt0 : ∀ x ∈ p0, x.block < W.heap.size := by obtain ⟨m, hm⟩ := k0; exact DataW.trod_lt m _ _ _ hm
  obtain ⟨z0, w0⟩ : ∃ zs, IsRow .u8 W a0 len0 cap0 zs := by
    obtain ⟨fuel, hf⟩ := h0
    rcases open_ints Try.underlying22 Try.underlying5 (by kernel_rfl) hf with ⟨hcs, _⟩ | ⟨x, l, c, zs, hcs, _, hl, hm, hz, _, hcell, hwz⟩
    · simp [Value.cells] at hcs
      obtain ⟨rfl, rfl, rfl⟩ := hcs
      exact ⟨[], .inl ⟨rfl, rfl, rfl, rfl⟩⟩
    · simp [Value.cells] at hcs
      obtain ⟨rfl, rfl, rfl⟩ := hcs
      exact ⟨zs, .inr ⟨_, rfl, hl, hm, by simpa using hz, hcell, hwz⟩⟩
  obtain ⟨a1, rfl, rfl, rfl, w1⟩ := open_int Try.underlying2 (hval 1 2 v1 rfl rfl) h1
  obtain ⟨a2, rfl, rfl, rfl, w2⟩ := open_int Try.underlying2 (hval 2 2 v2 rfl rfl) h2
  obtain ⟨a3, rfl, rfl, rfl, w3⟩ := open_int Try.underlying2 (hval 3 2 v3 rfl rfl) h3
  obtain ⟨a4, rfl, rfl, rfl, w4⟩ := open_int Try.underlying2 (hval 4 2 v4 rfl rfl) h4
  clear hA0 hval0
  refine (walk a0 len0 cap0 z0 a1 a2 a3 a4 W w0 w1 w2 w3 w4).mono fun e W' ⟨he, bel⟩ => ?_
  subst he
  exact ⟨_, rfl, _, _, _, [], _, [], hW', trodAll_mk1 (shut_bool Try.underlying4 _), (trodAll_cons_mk (Below.trod laidOut (by kernel_rfl) (of_decide_eq_true (by kernel_rfl)) k0 bel lt0) (trodAll_cons_mk (shut_int Try.underlying2 w1) (trodAll_cons_mk (shut_int Try.underlying2 w2) (trodAll_cons_mk (shut_int Try.underlying2 w3) (trodAll_cons_mk (shut_int Try.underlying2 w4) trodAll_mk0))))), rfl, bel.frame _, fun h => by cases h⟩

theorem over : Rows.fnGrantExpiredFromItsInstantOnwardRow.holds Try.pinned (OpenSpec.ofChange Rows.fnGrantExpiredFromItsInstantOnwardSpec) :=
  OpenClaim.holds_of_wide 3 Try.f3 rfl rfl rfl rfl rfl rfl rfl ⟨rfl, rfl, rfl, rfl, rfl⟩ rfl rfl rfl rfl rfl (by kernel_rfl) Try.func3 (by kernel_rfl)
    (of_decide_eq_true (by kernel_rfl)) (by unfold Func.isWrapper; first | (rw [if_pos (by decide +kernel)]; kernel_rfl) | (rw [if_neg (by decide +kernel)]; exact ⟨rfl, rfl⟩))
    (fun os started H enc _ => lifted os started H enc)

/-- ████ THE STATEMENT ████ -/
theorem proved : Rows.FnGrantExpiredFromItsInstantOnwardSaid := over
#print axioms proved
end Go.Proofs.Qxb6616406a.fnGrantExpiredFromItsInstantOnward
