/-
  THE SHELL OF A PROOF OF 'Rows.FnGrantExpiryOrdersTwoInstantsSaid' ('example.com/catalog-to-binding/catalog-to-binding/zzlaws_root_b1.FnGrantExpiryOrdersTwoInstants'), WRITTEN BY PROGRAM (proof-skeleton.mjs, third state) off the guide's own print for that function. Not trusted: the kernel checks it.
  THE WALK IS MINE; ALL ELSE IS THE GUIDE's OWN WAY (howto/template/XProofs.lean; Derived/Test/ChunkProofs.lean for 'Below') at this function's number and types.
-/
import Derived.Test.Qxb6616406aRows
import Derived.WalkKit
import Derived.ProofKit
import Derived.OpenShut
import Derived.ShutString
import Derived.ChangeOld
import Derived.Below
import Derived.WalkSpells
import Derived.Deep.OwnRows
import Derived.Laws.CopyOwn
import Derived.Test.Qxb6616406aTime
namespace Go.Proofs.Qxb6616406a.fnGrantExpiryOrdersTwoInstants
open Go.ChangeShapes Go.WideShapes Go.ChangeAt Go.RowKit
open Go.ChangeMaps (open_string shut_string)
set_option linter.unusedVariables false

theorem own : ownKnob Try.prog.godebug = none := by kernel_rfl
theorem laidOut : laidOutB Try.prog = true := by kernel_rfl

/-- WHAT THE WALK IS TOLD OF A SLICE OF INTEGERS THAT CAME IN: it is nil; or it leads to a row of 'cap' cells, the numbers 'zs' (the first 'len' are its elements, the rest its spare room), each fitting its kind. -/
def IsRow (k : IntKind) (w : World) (a : Option Addr) (len cap : Nat) (zs : List Int) : Prop :=
  (a = none ∧ len = 0 ∧ cap = 0 ∧ zs = []) ∨
  ∃ x, a = some x ∧ len ≤ cap ∧ cap ≤ maxLen ∧ zs.length = cap ∧ (∀ i, i < zs.length → w.cell? (x.add i) = some (.int k (zs.getD i 0))) ∧ ∀ n ∈ zs, (Lit.int k n).wf = true

/-! ### STEP 1: THE WALK: the Go text returns true, AND WRITES NOTHING THAT WAS THERE: 'Below w.heap.size w w'' (Derived/Below.lean: '.refl', '.alloc', '.drew', '.setCell' at a new block, '.trans'). Open each 'IsRow' by 'rcases' AHEAD of 'go_enter'; part every test ahead of the walk. -/

theorem bytes_yes (a : Option Addr) (l c : Nat) (x1 x2 x3 : Int) (hl : l ≤ 1048576) (w : World) :
    Calls Try.prog 8 #[.slice a l c, .int .i64 x1, .int .i64 x2, .int .i64 x3] w fun e w' => e = .returned (.bool true) ∧ w' = w := by
  have h1 : (l : Int) ≤ 1048576 := by omega
  go_enter Try.func8, Try.ntmps8
  go_wp2
  go_ret
  exact ⟨rfl, rfl⟩

theorem bytes_no (a : Option Addr) (l c : Nat) (x1 x2 x3 : Int) (hl : 1048576 < l) (w : World) :
    Calls Try.prog 8 #[.slice a l c, .int .i64 x1, .int .i64 x2, .int .i64 x3] w fun e w' => e = .returned (.bool false) ∧ w' = w := by
  have h1 : (1048576 : Int) < (l : Int) := by omega
  go_enter Try.func8, Try.ntmps8
  go_wp2
  go_ret
  exact ⟨rfl, rfl⟩

theorem early (a : Option Addr) (l c : Nat) (x1 x2 x3 : Int) (hl : 1048576 < l) (w : World) :
    Calls Try.prog 4 #[.slice a l c, .int .i64 x1, .int .i64 x2, .int .i64 x3] w fun e w' => e = .returned (.bool true) ∧ Below w.heap.size w w' := by
  go_enter Try.func4, Try.ntmps4
  go_wp2_with (go_at_call 8; refine (bytes_no a l c x1 x2 x3 hl _).mono ?_; rintro e w' ⟨rfl, rfl⟩)
  go_ret
  exact ⟨rfl, Below.refl _ _⟩

theorem chain3 {w w1 w2 w3 : World} (k1 : Below w.heap.size w w1) (k2 : Below w1.heap.size w1 w2) (k3 : Below w2.heap.size w2 w3) : Below w.heap.size w w3 := by
  have a := k1.trans (k2.mono k1.size)
  exact a.trans (k3.mono a.size)

theorem infoE : (Try.prog.info? 5).map (fun i => (i.zero, i.size, i.bytes)) = some (some (.int .u8 0), 1, 1) := by kernel_rfl
theorem sizeE : (Try.prog.info? 5).map (·.size) = some 1 := by kernel_rfl

/-- The copy first: a new row at the heap's end; nothing old turns. -/
theorem copied (x : Addr) (len cap : Nat) (zs : List Int) (w : World) (hl : len ≤ cap) (hz0 : zs.length = cap) (hcell : ∀ i, i < zs.length → w.cell? (x.add i) = some (.int .u8 (zs.getD i 0))) :
    ∃ w0, (∀ ty, (Builtin.copy_ #[22, 22] ty #[.slice (some ⟨w.heap.size, 0, none⟩) len len, .slice (some x) len cap]).run Try.prog (w.alloc (.cells (madeCells #[.int .u8 0] len) 5)) = .ok (goInt len) w0) ∧ Below w.heap.size w w0 := by
  have hcl : ((zs.take len).map (Value.int .u8)).length = len := by simp; omega
  have b0 : Below w.heap.size w (w.alloc (.cells (madeCells #[.int .u8 0] len) 5)) := (Below.refl _ _).alloc (Nat.le_refl _) _
  refine ⟨_, fun ty => (run_copy_row (P := Try.prog) _ 22 22 ty 5 w.heap.size 0 len len x len cap (madeCells #[.int .u8 0] len) 5 ((zs.take len).map (Value.int .u8)) Try.underlying22 sizeE (by show (w.heap.push _)[w.heap.size]? = _; simp) (by rw [hcl]; simp) ?_ (by rw [hcl, size_madeCells]; omega) ?_).trans (by rw [hcl]), below_setRow b0 (Nat.le_refl _) _⟩
  · intro j v hj
    simp only [List.getElem?_map, Option.map_eq_some_iff] at hj
    obtain ⟨z, hz, rfl⟩ := hj
    rw [List.getElem?_take] at hz
    split at hz
    · have hc := hcell j (by omega)
      have hlt : (x.add j).block < w.heap.size := World.block_lt_of_cell? w (x.add j) hc
      rw [b0.cell hlt, hc]
      simp [List.getD, hz]
    · cases hz
  · intro v hv
    obtain ⟨z, _, rfl⟩ := List.mem_map.1 hv
    rfl


theorem exp_zero (y : Int) : Tm.exp 0 y = false := rfl

/-- How a and b lie, and what the two checks say. -/
def Way (a b : Int) : Prop :=
  (a = 0 ∧ b = 0) ∨ (a = 0 ∧ (b == 0) = false) ∨ ((a == 0) = false ∧ b = 0) ∨ ((a == 0) = false ∧ b = a ∧ Tm.exp a a = true) ∨ ((a == 0) = false ∧ (b == 0) = false ∧ (a == b) = false ∧ Tm.exp a b = true ∧ Tm.exp b a = false) ∨ ((a == 0) = false ∧ (b == 0) = false ∧ (a == b) = false ∧ Tm.exp a b = false ∧ Tm.exp b a = true)

theorem way (a b : Int) : Way a b := by
  unfold Way
  by_cases ha : a = 0
  · by_cases hb : b = 0
    · exact .inl ⟨ha, hb⟩
    · exact .inr (.inl ⟨ha, by simpa using hb⟩)
  · have ha' : (a == 0) = false := by simpa using ha
    by_cases hb : b = 0
    · exact .inr (.inr (.inl ⟨ha', hb⟩))
    · have hb' : (b == 0) = false := by simpa using hb
      rcases Int.lt_trichotomy a b with h | h | h
      · exact .inr (.inr (.inr (.inr (.inl ⟨ha', hb', by simp; omega, by unfold Tm.exp; rw [if_neg ha]; simp; omega, by unfold Tm.exp; rw [if_neg hb]; simp; omega⟩))))
      · exact .inr (.inr (.inr (.inl ⟨ha', h.symm, by unfold Tm.exp; rw [if_neg ha]; simp⟩)))
      · exact .inr (.inr (.inr (.inr (.inr ⟨ha', hb', by simp; omega, by unfold Tm.exp; rw [if_neg ha]; simp; omega, by unfold Tm.exp; rw [if_neg hb]; simp; omega⟩))))

set_option maxRecDepth 20000 in
set_option maxHeartbeats 2000000 in
theorem main_nil (x1 x2 x3 : Int) (w : World) (b1 : -9223372036854775808 ≤ x1 ∧ x1 ≤ 9223372036854775807) (b2 : -9223372036854775808 ≤ x2 ∧ x2 ≤ 9223372036854775807) (b3 : -9223372036854775808 ≤ x3 ∧ x3 ≤ 9223372036854775807) (hw : Way x2 x3) :
    Calls Try.prog 4 #[.slice none 0 0, .int .i64 x1, .int .i64 x2, .int .i64 x3] w fun e w' => e = .returned (.bool true) ∧ Below w.heap.size w w' := by
  have kn := fun a n c w => run_neq_slice_nil_any (P := Try.prog) w 22 5 a n c 0 0 Try.underlying22
  have q0 := exp_zero
  obtain ⟨b10, b11⟩ := b1
  obtain ⟨b20, b21⟩ := b2
  obtain ⟨b30, b31⟩ := b3
  rcases hw with ⟨rfl, rfl⟩ | ⟨rfl, q1⟩ | ⟨q1, rfl⟩ | ⟨q1, rfl, q2⟩ | ⟨q1, q2, q3, q4, q5⟩ | ⟨q1, q2, q3, q4, q5⟩
  all_goals
    go_enter Try.func4, Try.ntmps4
    go_wp2_with (go_at_call 8; refine (bytes_yes _ 0 0 _ _ _ (by omega) _).mono ?_; rintro e w' ⟨rfl, rfl⟩)
    refine (Tm.grant_any _ _ _ _ _ _ ⟨by omega, by omega⟩ ⟨by omega, by omega⟩ ⟨by omega, by omega⟩ _).mono ?_
    rintro e w1 ⟨rfl, k1⟩
    go_wp2_with fail
    refine (Tm.grant_any _ _ _ _ _ _ ⟨by omega, by omega⟩ ⟨by omega, by omega⟩ ⟨by omega, by omega⟩ _).mono ?_
    rintro e w2 ⟨rfl, k2⟩
    go_wp2_with fail
    refine (Tm.grant_any _ _ _ _ _ _ ⟨by omega, by omega⟩ ⟨by omega, by omega⟩ ⟨by omega, by omega⟩ _).mono ?_
    rintro e w3 ⟨rfl, k3⟩
    go_wp2
    go_ret
    exact ⟨rfl, chain3 k1 k2 k3⟩

set_option maxRecDepth 20000 in
set_option maxHeartbeats 2000000 in
theorem main_row (x : Addr) (len cap : Nat) (x1 x2 x3 : Int) (w w0 : World) (hlen : len ≤ 1048576)
    (kc : ∀ ty, (Builtin.copy_ #[22, 22] ty #[.slice (some ⟨w.heap.size, 0, none⟩) len len, .slice (some x) len cap]).run Try.prog (w.alloc (.cells (madeCells #[.int .u8 0] len) 5)) = .ok (goInt len) w0) (hB : Below w.heap.size w w0)
    (b1 : -9223372036854775808 ≤ x1 ∧ x1 ≤ 9223372036854775807) (b2 : -9223372036854775808 ≤ x2 ∧ x2 ≤ 9223372036854775807) (b3 : -9223372036854775808 ≤ x3 ∧ x3 ≤ 9223372036854775807) (hw : Way x2 x3) :
    Calls Try.prog 4 #[.slice (some x) len cap, .int .i64 x1, .int .i64 x2, .int .i64 x3] w fun e w' => e = .returned (.bool true) ∧ Below w.heap.size w w' := by
  have kn := fun a n c w => run_neq_slice_nil_any (P := Try.prog) w 22 5 a n c 0 0 Try.underlying22
  have km := fun w => run_make_row' (P := Try.prog) 22 5 (.int .u8 0) 1 Try.underlying22 infoE rfl .i64 .i64 len (by omega) (by omega) w
  have hlI : (len : Int) ≤ 1048576 := by omega
  have HL : Hid (len ≤ 1048576) := hlen
  clear hlen
  have q0 := exp_zero
  obtain ⟨b10, b11⟩ := b1
  obtain ⟨b20, b21⟩ := b2
  obtain ⟨b30, b31⟩ := b3
  rcases hw with ⟨rfl, rfl⟩ | ⟨rfl, q1⟩ | ⟨q1, rfl⟩ | ⟨q1, rfl, q2⟩ | ⟨q1, q2, q3, q4, q5⟩ | ⟨q1, q2, q3, q4, q5⟩
  all_goals
    go_enter Try.func4, Try.ntmps4
    go_wp2_with (go_at_call 8; refine (bytes_yes _ _ _ _ _ _ HL.out _).mono ?_; rintro e w' ⟨rfl, rfl⟩)
    refine (Tm.grant_any _ _ _ _ _ _ ⟨by omega, by omega⟩ ⟨by omega, by omega⟩ ⟨by omega, by omega⟩ _).mono ?_
    rintro e w1 ⟨rfl, k1⟩
    go_wp2_with fail
    refine (Tm.grant_any _ _ _ _ _ _ ⟨by omega, by omega⟩ ⟨by omega, by omega⟩ ⟨by omega, by omega⟩ _).mono ?_
    rintro e w2 ⟨rfl, k2⟩
    go_wp2_with fail
    refine (Tm.grant_any _ _ _ _ _ _ ⟨by omega, by omega⟩ ⟨by omega, by omega⟩ ⟨by omega, by omega⟩ _).mono ?_
    rintro e w3 ⟨rfl, k3⟩
    go_wp2
    go_ret
    have c3 := chain3 k1 k2 k3
    exact ⟨rfl, hB.trans (c3.mono hB.size)⟩

theorem walk (a0 : Option Addr) (len0 cap0 : Nat) (z0 : List Int) (a1 : Int) (a2 : Int) (a3 : Int) (w : World) (w0 : IsRow .u8 w a0 len0 cap0 z0) (w1 : (Lit.int .i64 a1).wf = true) (w2 : (Lit.int .i64 a2).wf = true) (w3 : (Lit.int .i64 a3).wf = true) :
    Calls Try.prog 4 #[.slice a0 len0 cap0, .int .i64 a1, .int .i64 a2, .int .i64 a3] w fun e w' => e = .returned (.bool true) ∧ Below w.heap.size w w' := by
  by_cases hlen : 1048576 < len0
  · exact early a0 len0 cap0 a1 a2 a3 hlen w
  rcases w0 with ⟨rfl, rfl, rfl, rfl⟩ | ⟨x, rfl, hl, _, hz0, hcell, _⟩
  · exact main_nil a1 a2 a3 w (bounds_i64 w1) (bounds_i64 w2) (bounds_i64 w3) (way a2 a3)
  · obtain ⟨w0, kc, hB⟩ := copied x len0 cap0 z0 w hl hz0 hcell
    exact main_row x len0 cap0 a1 a2 a3 w w0 (by omega) kc hB (bounds_i64 w1) (bounds_i64 w2) (bounds_i64 w3) (way a2 a3)

/-! ### THE ROW's STEP: WRITTEN OUT: LEAVE IT -/
set_option maxRecDepth 100000 in
theorem lifted (os : Os) (started : os.Started) (H : Type) (enc : TypeId × Value → H) :
    ReturnsInHanded {} Try.checked os 4 .any (Rows.fnGrantExpiryOrdersTwoInstantsSpec.pre6 enc Try.prog Try.f4 Rows.fnGrantExpiryOrdersTwoInstantsRow.domain false) (Rows.fnGrantExpiryOrdersTwoInstantsSpec.post enc Try.prog Try.f4 false true false false) := by
  refine returnsInHanded_of_change (C := Try.checked) own started (by kernel_rfl) Try.func4
    (ChangeSpec.witness6 (enc := enc) (C := Try.checked) false ⟨#[], #[.slice none 0 0, .int .i64 0, .int .i64 0, .int .i64 0], []⟩ 8 (by kernel_rfl) (by kernel_rfl) (by kernel_rfl) (by kernel_rfl)) ?_
  intro W base args ds gs before hval0 hW hcnd _
  have hval : ∀ (j : Nat) t v, Try.f4.params[j]? = some t → args[j]? = some v → Value.okWide Try.prog W .any base t v := hval0
  have hW' := hW
  obtain ⟨p, q, hA0, hV, rfl, hfz, hnd⟩ := hW
  have hA : DataW.TrodAll enc Try.prog W 0 (fun _ => true) true Try.f4.params.toList args.toList ds p := hA0
  rw [Try.params4] at hA hval
  obtain ⟨v0, vs0, d0, ds0, p0, q0, hargs, rfl, rfl, h0, r0⟩ := trodAll_cons hA
  obtain ⟨v1, vs1, d1, ds1, p1, q1, rfl, rfl, rfl, h1, r1⟩ := trodAll_cons r0
  obtain ⟨v2, vs2, d2, ds2, p2, q2, rfl, rfl, rfl, h2, r2⟩ := trodAll_cons r1
  obtain ⟨v3, vs3, d3, ds3, p3, q3, rfl, rfl, rfl, h3, r3⟩ := trodAll_cons r2
  obtain ⟨rfl, rfl, rfl⟩ := trodAll_nil r3
  obtain rfl : args = #[v0, v1, v2, v3] := by cases args; simp_all
  obtain ⟨rfl, rfl⟩ := trodVars_none hV
  obtain ⟨a0, len0, cap0, rfl⟩ := okWide_slice Try.underlying22 (hval 0 22 v0 rfl rfl)
  have k0 := h0
  have lt0 : ∀ x ∈ p0, x.block < W.heap.size := by obtain ⟨m, hm⟩ := k0; exact DataW.trod_lt m _ _ _ hm
  obtain ⟨z0, w0⟩ : ∃ zs, IsRow .u8 W a0 len0 cap0 zs := by
    obtain ⟨fuel, hf⟩ := h0
    rcases open_ints Try.underlying22 Try.underlying5 (by kernel_rfl) hf with ⟨hcs, _⟩ | ⟨x, l, c, zs, hcs, _, hl, hm, hz, _, hcell, hwz⟩
    · simp [Value.cells] at hcs
      obtain ⟨rfl, rfl, rfl⟩ := hcs
      exact ⟨[], .inl ⟨rfl, rfl, rfl, rfl⟩⟩
    · simp [Value.cells] at hcs
      obtain ⟨rfl, rfl, rfl⟩ := hcs
      exact ⟨zs, .inr ⟨_, rfl, hl, hm, by simpa using hz, hcell, hwz⟩⟩
  obtain ⟨a1, rfl, rfl, rfl, w1⟩ := open_int Try.underlying2 (hval 1 2 v1 rfl rfl) h1
  obtain ⟨a2, rfl, rfl, rfl, w2⟩ := open_int Try.underlying2 (hval 2 2 v2 rfl rfl) h2
  obtain ⟨a3, rfl, rfl, rfl, w3⟩ := open_int Try.underlying2 (hval 3 2 v3 rfl rfl) h3
  clear hA0 hval0
  refine (walk a0 len0 cap0 z0 a1 a2 a3 W w0 w1 w2 w3).mono fun e W' ⟨he, bel⟩ => ?_
  subst he
  exact ⟨_, rfl, _, _, _, [], _, [], hW', trodAll_mk1 (shut_bool Try.underlying4 _), (trodAll_cons_mk (Below.trod laidOut (by kernel_rfl) (of_decide_eq_true (by kernel_rfl)) k0 bel lt0) (trodAll_cons_mk (shut_int Try.underlying2 w1) (trodAll_cons_mk (shut_int Try.underlying2 w2) (trodAll_cons_mk (shut_int Try.underlying2 w3) trodAll_mk0)))), rfl, bel.frame _, fun h => by cases h⟩

theorem over : Rows.fnGrantExpiryOrdersTwoInstantsRow.holds Try.pinned (OpenSpec.ofChange Rows.fnGrantExpiryOrdersTwoInstantsSpec) :=
  OpenClaim.holds_of_wide 4 Try.f4 rfl rfl rfl rfl rfl rfl rfl ⟨rfl, rfl, rfl, rfl, rfl⟩ rfl rfl rfl rfl rfl (by kernel_rfl) Try.func4 (by kernel_rfl)
    (of_decide_eq_true (by kernel_rfl)) (by unfold Func.isWrapper; first | (rw [if_pos (by decide +kernel)]; kernel_rfl) | (rw [if_neg (by decide +kernel)]; exact ⟨rfl, rfl⟩))
    (fun os started H enc _ => lifted os started H enc)

/-- ████ THE STATEMENT ████ -/
theorem proved : Rows.FnGrantExpiryOrdersTwoInstantsSaid := over
#print axioms proved
end Go.Proofs.Qxb6616406a.fnGrantExpiryOrdersTwoInstants
