/-
  The walks of time.Time's methods on the road (Add at the zero time, IsZero, Before), at seat b6616406a's dump.
-/
import Derived.Test.Qxb6616406aRows
import Derived.WalkKit
import Derived.ProofKit
import Derived.Below
import Derived.Laws.Bits64b
import Derived.Laws.BitsLemmas
import Derived.Outline
import Derived.Deep.RegionWith
namespace Go.Proofs.Qxb6616406a.Tm
open Go.ChangeShapes Go.WideShapes Go.ChangeAt Go.RowKit
set_option linter.unusedVariables false

theorem wraps_u64_63 (n : Int) (h₀ : 0 ≤ n) (h₁ : n < 2 ^ 63) : IntKind.u64.wrap n = n := by rw [IntKind.wrap_u64]; omega

theorem and_mask30 (n : Int) (h0 : 0 ≤ n) (h1 : n < 1073741824) : bits .and .u64 n 1073741823 = n := by
  have h := bits_mask .u64 63 (by decide) wraps_u64_63 30 (by decide) n h0 (by omega)
  have e : ((2 : Int) ^ 30 - 1) = 1073741823 := by decide
  have e2 : ((2 : Int) ^ 30) = 1073741824 := by decide
  rw [e, e2] at h
  rw [h]
  omega

theorem nat_and_top (a : Nat) (h : a < 1073741824) : a &&& 9223372036854775808 = 0 := by
  have e : a = a &&& (2 ^ 30 - 1) := by rw [Nat.and_two_pow_sub_one_eq_mod]; omega
  rw [e, Nat.and_assoc]
  have : (2 ^ 30 - 1) &&& 9223372036854775808 = 0 := by decide
  rw [this]; simp

theorem and_top (n : Int) (h0 : 0 ≤ n) (h1 : n < 1073741824) : bits .and .u64 n 9223372036854775808 = 0 := by
  obtain ⟨a, rfl⟩ := Int.eq_ofNat_of_zero_le h0
  have h := bits_and_u64_nat a 9223372036854775808 (by omega) (by decide)
  rw [nat_and_top a (by omega)] at h
  simpa using h

theorem and_and_top (n m : Int) (h0 : 0 ≤ n) (h1 : n < 1073741824) (g0 : 0 ≤ m) (g1 : m < 1073741824) : bits .and .u64 (bits .and .u64 n m) 9223372036854775808 = 0 := by
  obtain ⟨a, rfl⟩ := Int.eq_ofNat_of_zero_le h0
  obtain ⟨b, rfl⟩ := Int.eq_ofNat_of_zero_le g0
  rw [bits_and_u64_nat a b (by omega) (by omega)]
  have := Nat.and_le_left (n := a) (m := b)
  exact and_top _ (by omega) (by omega)

theorem or_zero (n : Int) (h0 : 0 ≤ n) (h1 : n < 1073741824) : bits .or .u64 0 n = n := by
  obtain ⟨a, rfl⟩ := Int.eq_ofNat_of_zero_le h0
  have h := bits_or_u64_nat 0 a (by decide) (by omega)
  simpa using h

theorem andNot0 : bits .andNot .u64 0 1073741823 = 0 := by decide


/-- nsec: the wall word's lowest thirty bits. -/
theorem nsec_at (b off : Nat) (n : Int) (w : World) (hc : w.cell? ⟨b, off, none⟩ = some (.int .u64 n)) (h0 : 0 ≤ n) (h1 : n < 1000000000) :
    Calls Try.prog 28 #[.pointer (some ⟨b, off, none⟩)] w fun e w' => e = .returned (.int .i32 n) ∧ w' = w := by
  have hm := and_mask30 n h0 (by omega)
  go_enter Try.func28, Try.ntmps28
  go_wp2
  go_ret
  exact ⟨rfl, rfl⟩

theorem sec_at (b off : Nat) (n s : Int) (w : World) (hc : w.cell? ⟨b, off, none⟩ = some (.int .u64 n)) (hs : w.cell? ⟨b, off + 1, none⟩ = some (.int .i64 s)) (h0 : 0 ≤ n) (h1 : n < 1000000000) :
    Calls Try.prog 31 #[.pointer (some ⟨b, off, none⟩)] w fun e w' => e = .returned (.int .i64 s) ∧ w' = w := by
  have hm := and_top n h0 (by omega)
  go_enter Try.func31, Try.ntmps31
  go_wp2
  go_ret
  exact ⟨rfl, rfl⟩

theorem addSec_at (b off : Nat) (n d : Int) (w : World) (hc : w.cell? ⟨b, off, none⟩ = some (.int .u64 n)) (hs : w.cell? ⟨b, off + 1, none⟩ = some (.int .i64 0)) (hf : w.frozen? ⟨b, off + 1, none⟩ = false) (h0 : 0 ≤ n) (h1 : n < 1000000000) (hd0 : -9223372036854775808 ≤ d) (hd1 : d ≤ 9223372036854775807) :
    Calls Try.prog 29 #[.pointer (some ⟨b, off, none⟩), .int .i64 d] w fun e w' => e = .returned (.tuple #[]) ∧ w' = w.setCell ⟨b, off + 1, none⟩ (.int .i64 d) := by
  have hm := and_top n h0 (by omega)
  go_enter Try.func29, Try.ntmps29
  go_wp2
  go_end0
  exact ⟨rfl, rfl⟩

set_option maxHeartbeats 1000000 in
theorem add_pos (d : Int) (h0 : 0 ≤ d) (h1 : d ≤ 9223372036854775807) (w : World) :
    Calls Try.prog 20 #[.agg #[.int .u64 0, .int .i64 0, .pointer none], .int .i64 d] w fun e w' =>
      e = .returned (.agg #[.int .u64 (d % 1000000000), .int .i64 (d / 1000000000), .pointer none]) ∧ Below w.heap.size w w' := by
  have r0 : 0 ≤ d % 1000000000 := by omega
  have r1 : d % 1000000000 < 1000000000 := by omega
  have ho := or_zero (d % 1000000000) r0 (by omega)
  have ht := and_top (d % 1000000000) r0 (by omega)
  have hn := andNot0
  go_enter Try.func20, Try.ntmps20
  go_wp2_with (first | (go_at_call 28; refine (nsec_at _ _ 0 _ (by simp) (by omega) (by omega)).mono ?_; rintro e w' ⟨rfl, rfl⟩) | (go_at_call 29; refine (addSec_at _ _ (d % 1000000000) _ _ (by simp) (by simp) (by simp) (by omega) (by omega) (by omega) (by omega)).mono ?_; rintro e w' ⟨rfl, rfl⟩))
  exact bodyPost_ret (v := .agg #[.int .u64 (d % 1000000000), .int .i64 (d / 1000000000), .pointer none]) (by simp [results, Try.results20, go_sem]) rfl ⟨rfl, ((Below.refl _ _).alloc (Nat.le_refl _) _).alloc (by simp) _⟩

theorem agg_eq {a b c d : Int} (h1 : a = c) (h2 : b = d) : Ending.returned (.agg #[.int .u64 a, .int .i64 b, .pointer none]) = .returned (.agg #[.int .u64 c, .int .i64 d, .pointer none]) := by rw [h1, h2]

set_option maxHeartbeats 1000000 in
theorem add_neg (d : Int) (h0 : d < 0) (h1 : -9223372036854775808 ≤ d) (w : World) :
    Calls Try.prog 20 #[.agg #[.int .u64 0, .int .i64 0, .pointer none], .int .i64 d] w fun e w' =>
      e = .returned (.agg #[.int .u64 (d % 1000000000), .int .i64 (d / 1000000000), .pointer none]) ∧ Below w.heap.size w w' := by
  have hq : ∃ q r : Int, d.tdiv 1000000000 = q ∧ d.tmod 1000000000 = r ∧ d = 1000000000 * q + r ∧ -1000000000 < r ∧ r ≤ 0 ∧ q ≤ 0 ∧ -9223372037 ≤ q := by
    have e1 := Int.mul_tdiv_add_tmod d 1000000000
    have e2 : d.tmod 1000000000 = -((-d).tmod 1000000000) := by rw [Int.neg_tmod]; omega
    have e3 := Int.tmod_nonneg 1000000000 (a := -d) (by omega)
    have e4 := Int.tmod_lt_of_pos (-d) (b := 1000000000) (by omega)
    exact ⟨_, _, rfl, rfl, by omega, by omega, by omega, by omega, by omega⟩
  obtain ⟨q, r, hq, hr, hd, r0, r1, q0, q1⟩ := hq
  have HD : Hid (d = 1000000000 * q + r) := hd
  clear hd
  have hn := andNot0
  by_cases hz : r = 0
  · subst hz
    have ho := or_zero 0 (by omega) (by omega)
    have ht := and_top 0 (by omega) (by omega)
    go_enter Try.func20, Try.ntmps20
    go_wp2_with (first | (go_at_call 28; refine (nsec_at _ _ 0 _ (by simp) (by omega) (by omega)).mono ?_; rintro e w' ⟨rfl, rfl⟩) | (go_at_call 29; refine (addSec_at _ _ 0 q _ (by simp) (by simp) (by simp) (by omega) (by omega) (by omega) (by omega)).mono ?_; rintro e w' ⟨rfl, rfl⟩))
    have hd := HD.out
    exact bodyPost_ret (v := .agg #[.int .u64 0, .int .i64 q, .pointer none]) (by simp [results, Try.results20, go_sem]) rfl ⟨agg_eq (by omega) (by omega), ((Below.refl _ _).alloc (Nat.le_refl _) _).alloc (by simp) _⟩
  · have r2 : r < 0 := by omega
    have ho := or_zero (r + 1000000000) (by omega) (by omega)
    have ht := and_top (r + 1000000000) (by omega) (by omega)
    go_enter Try.func20, Try.ntmps20
    go_wp2_with (first | (go_at_call 28; refine (nsec_at _ _ 0 _ (by simp) (by omega) (by omega)).mono ?_; rintro e w' ⟨rfl, rfl⟩) | (go_at_call 29; refine (addSec_at _ _ (r + 1000000000) (q - 1) _ (by simp) (by simp) (by simp) (by omega) (by omega) (by omega) (by omega)).mono ?_; rintro e w' ⟨rfl, rfl⟩))
    have hd := HD.out
    exact bodyPost_ret (v := .agg #[.int .u64 (r + 1000000000), .int .i64 (q - 1), .pointer none]) (by simp [results, Try.results20, go_sem]) rfl ⟨agg_eq (by omega) (by omega), ((Below.refl _ _).alloc (Nat.le_refl _) _).alloc (by simp) _⟩

theorem add_any (d : Int) (h1 : -9223372036854775808 ≤ d) (h2 : d ≤ 9223372036854775807) (w : World) :
    Calls Try.prog 20 #[.agg #[.int .u64 0, .int .i64 0, .pointer none], .int .i64 d] w fun e w' =>
      e = .returned (.agg #[.int .u64 (d % 1000000000), .int .i64 (d / 1000000000), .pointer none]) ∧ Below w.heap.size w w' := by
  by_cases h : 0 ≤ d
  · exact add_pos d h h2 w
  · exact add_neg d (by omega) h1 w

theorem bcell {W w1 : World} (hb : Below W.heap.size W w1) : (∀ b o, b < W.heap.size → w1.cell? ⟨b, o, none⟩ = W.cell? ⟨b, o, none⟩) ∧ (∀ b o, b < W.heap.size → w1.frozen? ⟨b, o, none⟩ = W.frozen? ⟨b, o, none⟩) :=
  ⟨fun b o h => hb.cell (p := ⟨b, o, none⟩) h, fun b o h => hb.frozen (p := ⟨b, o, none⟩) h⟩

/-- ZZinstant: the instant d nanoseconds from the zero time: the seconds and the nanoseconds by the floor. -/
theorem inst_any (d : Int) (h1 : -9223372036854775808 ≤ d) (h2 : d ≤ 9223372036854775807) (w : World) :
    Calls Try.prog 17 #[.int .i64 d] w fun e w' =>
      e = .returned (.agg #[.int .u64 (d % 1000000000), .int .i64 (d / 1000000000), .pointer none]) ∧ Below w.heap.size w w' := by
  go_enter Try.func17, Try.ntmps17
  go_wp2_with fail
  refine (add_any d h1 h2 _).mono ?_
  rintro e w1 ⟨rfl, hb⟩
  obtain ⟨hc, hf⟩ := bcell hb
  have hz : w.heap.size < w1.heap.size := by have := hb.size; simp at this; omega
  go_wp2
  refine bodyPost_ret (v := .agg #[.int .u64 (d % 1000000000), .int .i64 (d / 1000000000), .pointer none]) (by simp [results, Try.results17, go_sem, hc]) rfl ⟨rfl, ?_⟩
  exact (((((Below.refl _ _).alloc (Nat.le_refl _) _).trans (hb.mono (by simp))).setCell (by simp) _).setCell (by simp) _).setCell (by simp) _

theorem isZero_no (n s : Int) (h : ¬ (n = 0 ∧ s = 0)) (w : World) :
    Calls Try.prog 21 #[.agg #[.int .u64 n, .int .i64 s, .pointer none]] w fun e w' => e = .returned (.bool false) ∧ Below w.heap.size w w' := by
  by_cases hn : n = 0
  · have h2 : (s == 0) = false := by simp; omega
    go_enter Try.func21, Try.ntmps21
    go_wp2
    go_ret
    exact ⟨rfl, (Below.refl _ _).alloc (Nat.le_refl _) _⟩
  · have h2 : (n == 0) = false := by simp; omega
    go_enter Try.func21, Try.ntmps21
    go_wp2
    go_ret
    exact ⟨rfl, (Below.refl _ _).alloc (Nat.le_refl _) _⟩

theorem isZero_yes (w : World) :
    Calls Try.prog 21 #[.agg #[.int .u64 0, .int .i64 0, .pointer none]] w fun e w' => e = .returned (.bool true) ∧ Below w.heap.size w w' := by
  go_enter Try.func21, Try.ntmps21
  go_wp2
  go_ret
  exact ⟨rfl, (Below.refl _ _).alloc (Nat.le_refl _) _⟩

theorem before_lt (n1 s1 n2 s2 : Int) (a0 : 0 ≤ n1) (a1 : n1 < 1000000000) (b0 : 0 ≤ n2) (b1 : n2 < 1000000000) (h : s1 < s2) (w : World) :
    Calls Try.prog 22 #[.agg #[.int .u64 n1, .int .i64 s1, .pointer none], .agg #[.int .u64 n2, .int .i64 s2, .pointer none]] w fun e w' => e = .returned (.bool true) ∧ Below w.heap.size w w' := by
  have hm : bits .and .u64 (bits .and .u64 n1 n2) 9223372036854775808 = 0 := and_and_top n1 n2 a0 (by omega) b0 (by omega)
  go_enter Try.func22, Try.ntmps22
  go_wp2_with fail
  refine (sec_at _ _ n1 s1 _ (by simp) (by simp) a0 a1).mono ?_
  rintro e w' ⟨rfl, rfl⟩
  go_wp2_with fail
  refine (sec_at _ _ n2 s2 _ (by simp) (by simp) b0 b1).mono ?_
  rintro e w' ⟨rfl, rfl⟩
  go_wp2
  go_ret
  exact ⟨rfl, ((Below.refl _ _).alloc (Nat.le_refl _) _).alloc (by simp) _⟩

theorem before_gt (n1 s1 n2 s2 : Int) (a0 : 0 ≤ n1) (a1 : n1 < 1000000000) (b0 : 0 ≤ n2) (b1 : n2 < 1000000000) (h : s2 < s1) (w : World) :
    Calls Try.prog 22 #[.agg #[.int .u64 n1, .int .i64 s1, .pointer none], .agg #[.int .u64 n2, .int .i64 s2, .pointer none]] w fun e w' => e = .returned (.bool false) ∧ Below w.heap.size w w' := by
  have hm : bits .and .u64 (bits .and .u64 n1 n2) 9223372036854775808 = 0 := and_and_top n1 n2 a0 (by omega) b0 (by omega)
  have hne : (s1 == s2) = false := by simp; omega
  have hlt : decide (s1 < s2) = false := by simp; omega
  go_enter Try.func22, Try.ntmps22
  go_wp2_with fail
  refine (sec_at _ _ n1 s1 _ (by simp) (by simp) a0 a1).mono ?_
  rintro e w' ⟨rfl, rfl⟩
  go_wp2_with fail
  refine (sec_at _ _ n2 s2 _ (by simp) (by simp) b0 b1).mono ?_
  rintro e w' ⟨rfl, rfl⟩
  go_wp2
  go_ret
  exact ⟨rfl, ((Below.refl _ _).alloc (Nat.le_refl _) _).alloc (by simp) _⟩

theorem before_eq (n1 s n2 : Int) (a0 : 0 ≤ n1) (a1 : n1 < 1000000000) (b0 : 0 ≤ n2) (b1 : n2 < 1000000000) (w : World) :
    Calls Try.prog 22 #[.agg #[.int .u64 n1, .int .i64 s, .pointer none], .agg #[.int .u64 n2, .int .i64 s, .pointer none]] w fun e w' => e = .returned (.bool (decide (n1 < n2))) ∧ Below w.heap.size w w' := by
  have hm : bits .and .u64 (bits .and .u64 n1 n2) 9223372036854775808 = 0 := and_and_top n1 n2 a0 (by omega) b0 (by omega)
  go_enter Try.func22, Try.ntmps22
  go_wp2_with fail
  refine (sec_at _ _ n1 s _ (by simp) (by simp) a0 a1).mono ?_
  rintro e w' ⟨rfl, rfl⟩
  go_wp2_with fail
  refine (sec_at _ _ n2 s _ (by simp) (by simp) b0 b1).mono ?_
  rintro e w' ⟨rfl, rfl⟩
  go_wp2_with fail
  refine (nsec_at _ _ n1 _ (by simp) a0 a1).mono ?_
  rintro e w' ⟨rfl, rfl⟩
  go_wp2_with fail
  refine (nsec_at _ _ n2 _ (by simp) b0 b1).mono ?_
  rintro e w' ⟨rfl, rfl⟩
  go_wp2
  go_ret
  exact ⟨rfl, ((Below.refl _ _).alloc (Nat.le_refl _) _).alloc (by simp) _⟩

/-- Before, between two instants of ZZinstant's. -/
theorem before_any (x y : Int) (w : World) :
    Calls Try.prog 22 #[.agg #[.int .u64 (x % 1000000000), .int .i64 (x / 1000000000), .pointer none], .agg #[.int .u64 (y % 1000000000), .int .i64 (y / 1000000000), .pointer none]] w fun e w' => e = .returned (.bool (decide (x < y))) ∧ Below w.heap.size w w' := by
  rcases Int.lt_trichotomy (x / 1000000000) (y / 1000000000) with h | h | h
  · have e : decide (x < y) = true := by simp; omega
    rw [e]; exact before_lt _ _ _ _ (by omega) (by omega) (by omega) (by omega) h w
  · have e : decide (x < y) = decide (x % 1000000000 < y % 1000000000) := by simp; omega
    rw [e, h]; exact before_eq _ _ _ (by omega) (by omega) (by omega) (by omega) w
  · have e : decide (x < y) = false := by simp; omega
    rw [e]; exact before_gt _ _ _ _ (by omega) (by omega) (by omega) (by omega) h w

/-- (grant).expired at an expiry that is set. -/
theorem expired_set (a : Option Addr) (l c : Nat) (e r y : Int) (he : ¬ e = 0) (w : World) :
    Calls Try.prog 18 #[.agg #[.slice a l c, .int .u64 (e % 1000000000), .int .i64 (e / 1000000000), .pointer none, .int .u64 (r % 1000000000), .int .i64 (r / 1000000000), .pointer none], .agg #[.int .u64 (y % 1000000000), .int .i64 (y / 1000000000), .pointer none]] w fun x w' =>
      x = .returned (.bool (!decide (y < e))) ∧ Below w.heap.size w w' := by
  go_enter Try.func18, Try.ntmps18
  go_wp2_with fail
  refine (isZero_no _ _ (by omega) _).mono ?_
  rintro x w1 ⟨rfl, hb⟩
  obtain ⟨hc, hf⟩ := bcell hb
  go_wp2_with fail
  refine (before_any y e _).mono ?_
  rintro x w2 ⟨rfl, hb2⟩
  go_wp2
  go_ret
  exact ⟨rfl, (((Below.refl _ _).alloc (Nat.le_refl _) _).alloc (by simp) _).trans ((hb.trans (hb2.mono hb.size)).mono (by simp; omega))⟩

theorem expired_zero (a : Option Addr) (l c : Nat) (r y : Int) (w : World) :
    Calls Try.prog 18 #[.agg #[.slice a l c, .int .u64 0, .int .i64 0, .pointer none, .int .u64 (r % 1000000000), .int .i64 (r / 1000000000), .pointer none], .agg #[.int .u64 (y % 1000000000), .int .i64 (y / 1000000000), .pointer none]] w fun x w' =>
      x = .returned (.bool false) ∧ Below w.heap.size w w' := by
  go_enter Try.func18, Try.ntmps18
  go_wp2_with fail
  refine (isZero_yes _).mono ?_
  rintro x w1 ⟨rfl, hb⟩
  go_wp2
  go_ret
  exact ⟨rfl, (((Below.refl _ _).alloc (Nat.le_refl _) _).alloc (by simp) _).trans (hb.mono (by simp; omega))⟩

/-- Is a grant that expires at e (0: never) expired at y? -/
def exp (e y : Int) : Bool := if e = 0 then false else !decide (y < e)

theorem expired_any (a : Option Addr) (l c : Nat) (e r y : Int) (w : World) :
    Calls Try.prog 18 #[.agg #[.slice a l c, .int .u64 (e % 1000000000), .int .i64 (e / 1000000000), .pointer none, .int .u64 (r % 1000000000), .int .i64 (r / 1000000000), .pointer none], .agg #[.int .u64 (y % 1000000000), .int .i64 (y / 1000000000), .pointer none]] w fun x w' =>
      x = .returned (.bool (exp e y)) ∧ Below w.heap.size w w' := by
  by_cases he : e = 0
  · subst he
    exact expired_zero a l c r y w
  · unfold exp
    rw [if_neg he]
    exact expired_set a l c e r y he w

theorem grant_any (a : Option Addr) (l c : Nat) (e r y : Int) (he : -9223372036854775808 ≤ e ∧ e ≤ 9223372036854775807) (hr : -9223372036854775808 ≤ r ∧ r ≤ 9223372036854775807) (hy : -9223372036854775808 ≤ y ∧ y ≤ 9223372036854775807) (w : World) :
    Calls Try.prog 7 #[.slice a l c, .int .i64 e, .int .i64 r, .int .i64 y] w fun x w' =>
      x = .returned (.bool (exp e y)) ∧ Below w.heap.size w w' := by
  go_enter Try.func7, Try.ntmps7
  go_wp2_with fail
  refine (inst_any e he.1 he.2 _).mono ?_
  rintro x w1 ⟨rfl, hb1⟩
  go_wp2_with fail
  refine (inst_any r hr.1 hr.2 _).mono ?_
  rintro x w2 ⟨rfl, hb2⟩
  go_wp2_with fail
  go_region_with (first | (go_at_call 17; refine (inst_any y hy.1 hy.2 _).mono ?_; rintro x w3 ⟨rfl, hb3⟩; obtain ⟨hc3, hf3⟩ := bcell hb3) | (go_at_call 18; refine (expired_any a l c e r y _).mono ?_; rintro x w4 ⟨rfl, hb4⟩))
  all_goals
    have k1 := hb1.trans (hb2.mono hb1.size)
    have z3 := hb3.size
    have z1 := k1.size
    simp at z3
    have k3 := ((k1.alloc k1.size _).drew).trans (hb3.mono (by simp; omega))
    have k4 := k3.trans (hb4.mono (by omega))
    go_wp2
    go_ret
    exact ⟨rfl, k4⟩
end Go.Proofs.Qxb6616406a.Tm
