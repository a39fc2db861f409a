/-
  The law FnCommitRecordAppendOne at seat b6616558a's dump: its helper zzBytes and its own walk.
-/
import Derived.Test.Qxb6616558aCommit
import Derived.Laws.CopyOwn
import Derived.Handy
namespace Go.Proofs.Qxb6616558a.Lw
open Go.RowKit
set_option linter.unusedVariables false

/-- A slice of strings that came in: its strings. -/
def Strs (w : World) (a : Option Addr) (len : Nat) (ps : List ByteArray) : Prop :=
  ps.length = len ∧ (a = none → len = 0) ∧ (∀ x, a = some x → ∀ (j : Nat) u, ps[j]? = some u → w.cell? (x.add j) = some (.string u)) ∧ (∀ p ∈ ps, p.size ≤ maxLen)

theorem strs_at {w : World} {x : Addr} {len : Nat} {ps : List ByteArray} (h : Strs w (some x) len ps) (hp : 0 < len) :
    ∃ b off, x = ⟨b, off, none⟩ ∧ b < w.heap.size ∧ ∀ (j : Nat) (hj : j < ps.length), w.cell? ⟨b, off + j, none⟩ = some (.string ps[j]) := by
  obtain ⟨hl, _, hc, _⟩ := h
  obtain ⟨b, off, spot⟩ := x
  have h0 := hc _ rfl 0 ps[0] (List.getElem?_eq_getElem (by omega))
  have hspot : spot = none := by simpa [Addr.add] using World.cell?_spot h0
  subst hspot
  refine ⟨b, off, rfl, World.block_lt_of_cell? w _ h0, fun j hj => ?_⟩
  have hadd : (⟨b, off, none⟩ : Addr).add j = ⟨b, off + j, none⟩ := by unfold Addr.add; split <;> simp_all
  rw [← hadd]
  exact hc _ rfl j _ (List.getElem?_eq_getElem hj)

/-- What zzBytes answers: no; or yes, and then the lengths are small. -/
def Ans (len : Nat) (ps : List ByteArray) (id q : ByteArray) (w : World) (e : Ending) (w' : World) : Prop :=
  ∃ b, e = .returned (.bool b) ∧ w' = w ∧ (b = true → len ≤ 1048576 ∧ id.size ≤ 1048576 ∧ q.size ≤ 1048576 ∧ ∀ p ∈ ps, p.size ≤ 1048576)
theorem Ans.no {len : Nat} {ps : List ByteArray} {id q : ByteArray} {w w' : World} {e : Ending} (he : e = .returned (.bool false)) (hw : w' = w) : Ans len ps id q w e w' := ⟨false, he, hw, fun h => by cases h⟩
theorem Ans.yes {len : Nat} {ps : List ByteArray} {id q : ByteArray} {w w' : World} {e : Ending} (he : e = .returned (.bool true)) (hw : w' = w) (h1 : len ≤ 1048576) (h2 : id.size ≤ 1048576) (h3 : q.size ≤ 1048576) (h4 : ∀ p ∈ ps, p.size ≤ 1048576) : Ans len ps id q w e w' := ⟨true, he, hw, fun _ => ⟨h1, h2, h3, h4⟩⟩

set_option maxRecDepth 40000 in
set_option maxHeartbeats 1000000 in
/-- zzBytes: whatever it answers, the world stands; where it answers yes the lengths are small. -/
theorem bytes_any (id q : ByteArray) (a : Option Addr) (len cap : Nat) (ps : List ByteArray) (w : World) (hid : id.size ≤ maxLen) (hq : q.size ≤ maxLen) (hlm : len ≤ maxLen) (hs : Strs w a len ps) :
    Calls Try.prog 4 #[.string id, .slice a len cap, .string q] w fun e w' => Ans len ps id q w e w' := by
  unfold maxLen at hid hq hlm
  have HS : Hid (Strs w a len ps) := hs
  clear hs
  by_cases h1 : 1048576 < id.size
  · have h1' : (1048576 : Int) < (id.size : Int) := by omega
    go_enter Try.func4, Try.ntmps4
    go_wp2
    go_ret
    exact Ans.no rfl rfl
  have h1' : (id.size : Int) ≤ 1048576 := by omega
  by_cases h2 : 1048576 < len
  · have h2' : (1048576 : Int) < (len : Int) := by omega
    go_enter Try.func4, Try.ntmps4
    go_wp2
    go_ret
    exact Ans.no rfl rfl
  have h2' : (len : Int) ≤ 1048576 := by omega
  by_cases h3 : 1048576 < id.size + len
  · have h3' : (1048576 : Int) < (id.size : Int) + (len : Int) := by omega
    go_enter Try.func4, Try.ntmps4
    go_wp2
    go_ret
    exact Ans.no rfl rfl
  have h3' : (id.size : Int) + (len : Int) ≤ 1048576 := by omega
  go_enter Try.func4, Try.ntmps4
  go_wp2
  go_loop [7, 8] (fun n i => ∃ (k : Nat) (N : Int), k ≤ len ∧ 0 ≤ N ∧ N ≤ 1048576 ∧ i = .int .i64 k ∧ n = .int .i64 N ∧ Hid (∀ p ∈ ps.take k, p.size ≤ 1048576)) (fun _ i => len - (intOf i).toNat)
  case atStart => exact ⟨0, _, Nat.zero_le _, by omega, h3', rfl, rfl, fun p hp => by simp at hp⟩
  case round =>
    obtain ⟨k, N, hk, hN0, hN1, rfl, rfl, hsm⟩ := hrel
    by_cases hlt : k < len
    · cases a with
      | none => exact absurd (HS.out.2.1 rfl) (by omega)
      | some x =>
        obtain ⟨b, off, rfl, hb, hc⟩ := strs_at HS.out (by omega)
        have hkp : k < ps.length := by rw [HS.out.1]; exact hlt
        have hck := hc k hkp
        obtain ⟨p, hp⟩ : ∃ p, ps[k] = p := ⟨_, rfl⟩
        have hpm : p.size ≤ maxLen := HS.out.2.2.2 p (by rw [← hp]; exact List.getElem_mem hkp)
        unfold maxLen at hpm
        rw [hp] at hck
        have HP : Hid (ps.take (k + 1) = ps.take k ++ [p]) := by show _ = _; rw [List.take_succ_eq_append_getElem hkp, hp]
        clear hc hp
        have hltI : (k : Int) < (len : Int) := by omega
        by_cases hpb : 1048576 < p.size
        · have hpb' : (1048576 : Int) < (p.size : Int) := by omega
          go_wp2
          go_ret
          exact Ans.no rfl rfl
        · have hpb' : (p.size : Int) ≤ 1048576 := by omega
          by_cases hnb : 1048576 < N + (p.size : Int)
          · go_wp2
            go_ret
            exact Ans.no rfl rfl
          · go_wp2
            go_round
            case rel => exact ⟨k + 1, N + (p.size : Int), by omega, by omega, by omega, by go_num, rfl, fun p' hp' => by rw [HP.out, List.mem_append] at hp'; rcases hp' with h | h; exact hsm.out p' h; rw [List.mem_singleton.1 h]; omega⟩
            case measure => simp [intOf]; omega
    · have hltI : ¬ (k : Int) < (len : Int) := by omega
      by_cases hqb : 1048576 < q.size
      · have hqb' : (1048576 : Int) < (q.size : Int) := by omega
        go_wp2
        go_ret
        exact Ans.no rfl rfl
      · have hqb' : (q.size : Int) ≤ 1048576 := by omega
        by_cases hnb : 1048576 < N + (q.size : Int)
        · go_wp2
          go_ret
          exact Ans.no rfl rfl
        · go_wp2
          go_ret
          exact Ans.yes rfl rfl (by omega) (by omega) (by omega) (fun p hp => hsm.out p (by rw [List.take_of_length_le (by rw [HS.out.1]; omega)]; exact hp))

theorem bcell {W w1 : World} (hb : Below W.heap.size W w1) : (∀ b o, b < W.heap.size → w1.cell? ⟨b, o, none⟩ = W.cell? ⟨b, o, none⟩) ∧ (∀ b o, b < W.heap.size → w1.frozen? ⟨b, o, none⟩ = W.frozen? ⟨b, o, none⟩) :=
  ⟨fun b o h => hb.cell (p := ⟨b, o, none⟩) h, fun b o h => hb.frozen (p := ⟨b, o, none⟩) h⟩

theorem sizeE : (Try.prog.info? 9).map (·.size) = some 1 := by kernel_rfl

theorem made_one (z : Value) : madeCells #[z] 1 = #[z] := by
  apply Array.ext (by simp [madeCells])
  intro i h1 h2
  obtain rfl : i = 0 := by simp at h2; omega
  simp [madeCells]

/-- Strings that are added keep within an int. -/
theorem no_over {a b : Nat} (ha : a ≤ 8388608) (hb : b ≤ 8388608) : ¬ 9223372036854775807 < a + b := by omega

set_option maxRecDepth 40000 in
set_option maxHeartbeats 2000000 in
theorem main_nil (id q : ByteArray) (w : World) (hid : id.size ≤ maxLen) (hq : q.size ≤ maxLen) :
    Calls Try.prog 3 #[.string id, .slice none 0 0, .string q] w fun e w' => e = .returned (.bool true) ∧ Below w.heap.size w w' := by
  have kn := fun a n c w => run_neq_slice_nil_any (P := Try.prog) w 22 9 a n c 0 0 Try.underlying22
  have km := fun w => run_make_row' (P := Try.prog) 22 9 (.string ⟨#[]⟩) 16 Try.underlying22 Cm.infoE rfl .i64 .i64 1 (by omega) (by omega) w
  have hmk := made_one (.string ⟨#[]⟩)
  simp only [Int.natCast_one, hmk] at km
  clear hmk
  have hst : Strs w none 0 [] := ⟨rfl, fun _ => rfl, fun x hx => (by cases hx), fun p hp => by cases hp⟩
  have e1 := Cm.rc_nil id
  have e2 := Cm.rc_snoc id [] q
  simp only [List.nil_append] at e2
  have z1 := Cm.rc_size id []
  simp only [List.length_nil, Cm.tot] at z1
  have Z1 : Hid ((Cm.rc id []).size = 7 + id.size + 0 + 0) := z1
  have HST : Hid (Strs w none 0 []) := hst
  have HI : Hid (id.size ≤ maxLen) := hid
  have HQ : Hid (q.size ≤ maxLen) := hq
  have E1 : Hid (Cm.rc id [] = ⟨#[99, 111, 109, 109, 105, 116, 32]⟩ ++ id) := e1
  have E2 : Hid (Cm.rc id [q] = Cm.rc id [] ++ ⟨#[32]⟩ ++ q) := e2
  clear z1 hst hid hq e1 e2
  go_enter Try.func3, Try.ntmps3
  go_wp2_with fail
  refine (bytes_any id q none 0 0 [] _ HI.out HQ.out (by unfold maxLen; omega) HST.out).mono ?_
  rintro e wx ⟨b, rfl, hw, hb⟩
  obtain rfl := hw.symm
  cases b with
  | false =>
    clear hb
    go_wp2
    go_ret
    exact ⟨rfl, Below.refl _ _⟩
  | true =>
    obtain ⟨_, hi2, hq2, _⟩ := hb rfl
    clear hb
    have hi3 : (id.size : Int) ≤ 1048576 := by omega
    have hq3 : (q.size : Int) ≤ 1048576 := by omega
    by_cases hsum : 1048576 < (id.size : Int) + (q.size : Int)
    · go_wp2
      go_ret
      exact ⟨rfl, Below.refl _ _⟩
    · go_wp2
      go_rounds 1
      refine wp_loop_rounds 1 ?_
      rw [rounds_succ]
      go_wp2_with fail
      refine (Cm.zz_nil id (by omega) _).mono ?_
      rintro e w1 ⟨rfl, b1⟩
      have e1 := E1.out
      have hn1 : ¬ 9223372036854775807 < 7 + id.size := by omega
      have hc1 : w1.cell? ⟨w.heap.size, 0, none⟩ = some (.string q) := by rw [(bcell b1).1 _ _ (by simp)]; simp
      go_wp2_with fail
      refine (Cm.zz_row id _ 1 1 [q] (by omega) rfl (by omega) (by simp [Cm.tot]; omega) _ ?hcs).mono ?_
      case hcs =>
        intro j x hj
        match j, hj with
        | 0, hj => simp at hj; subst hj; exact hc1
      rintro e w2 ⟨rfl, b2⟩
      have e2 : Cm.rc id [q] = ⟨#[99, 111, 109, 109, 105, 116, 32]⟩ ++ id ++ ⟨#[32]⟩ ++ q := by rw [E2.out, E1.out]
      go_wp2_with fail
      refine (Cm.zz_nil id (by omega) _).mono ?_
      rintro e w3 ⟨rfl, b3⟩
      have hn2 : ¬ 9223372036854775807 < 7 + id.size + 1 := by omega
      have hn3 : ¬ 9223372036854775807 < 7 + id.size + 1 + q.size := by omega
      go_wp2
      go_ret
      have k1 := ((Below.refl _ w).alloc (Nat.le_refl _) (.cells #[.string q] 9)).trans (b1.mono (by simp))
      have k2 := k1.trans (b2.mono k1.size)
      exact ⟨rfl, k2.trans (b3.mono k2.size)⟩

/-- The copy first: a new row at the heap's end that holds the strings; nothing old turns. -/
theorem copied (x : Addr) (len cap : Nat) (ps : List ByteArray) (w : World) (hs : Strs w (some x) len ps) :
    ∃ w0, (∀ ty, (Builtin.copy_ #[22, 22] ty #[.slice (some ⟨w.heap.size, 0, none⟩) len len, .slice (some x) len cap]).run Try.prog (w.alloc (.cells (madeCells #[.string ⟨#[]⟩] len) 9)) = .ok (goInt len) w0) ∧ Below w.heap.size w w0 ∧ w.heap.size < w0.heap.size ∧
      w0.rowIs w.heap.size 9 len (fun j => .string (ps[j]?.getD ⟨#[]⟩)) := by
  obtain ⟨hl, _, hc, _⟩ := hs
  have hcl : (ps.map Value.string).length = len := by simp [hl]
  have b0 : Below w.heap.size w (w.alloc (.cells (madeCells #[.string ⟨#[]⟩] len) 9)) := (Below.refl _ _).alloc (Nat.le_refl _) _
  have hg : (w.alloc (.cells (madeCells #[.string ⟨#[]⟩] len) 9)).heap[w.heap.size]? = some (.cells (madeCells #[.string ⟨#[]⟩] len) 9 (0, 0)) := by show (w.heap.push _)[w.heap.size]? = _; simp
  have hr := fun ty => run_copy_row (P := Try.prog) _ 22 22 ty 9 w.heap.size 0 len len x len cap (madeCells #[.string ⟨#[]⟩] len) 9 (ps.map Value.string) Try.underlying22 sizeE hg (by rw [hcl]; simp) (by
      intro j v hj
      rw [List.getElem?_map, Option.map_eq_some_iff] at hj
      obtain ⟨u, hu, rfl⟩ := hj
      have h := hc x rfl j u hu
      rw [b0.cell (World.block_lt_of_cell? w _ h), h]) (by rw [hcl, size_madeCells]; omega) (by
      intro v hv
      obtain ⟨z, _, rfl⟩ := List.mem_map.1 hv
      rfl)
  have erow : ((madeCells #[.string ⟨#[]⟩] len).toList.take 0 ++ ps.map Value.string ++ (madeCells #[.string ⟨#[]⟩] len).toList.drop (0 + (ps.map Value.string).length)).toArray = (ps.map Value.string).toArray := by
    rw [List.drop_of_length_le (by rw [hcl, Array.length_toList, size_madeCells]; omega)]
    simp
  simp only [erow] at hr
  simp only [hcl] at hr
  refine ⟨_, hr, below_setRow b0 (Nat.le_refl _) _, by simp [World.setRow], ?_⟩
  refine ⟨_, setRow_heap _ _ _ _ _ _ hg, by simp [hl], fun i hi => ?_⟩
  have : i < ps.length := by omega
  simp [this]

theorem add_zero (g j : Nat) : (⟨g, 0, none⟩ : Addr).add j = ⟨g, j, none⟩ := by
  unfold Addr.add; split <;> simp_all

theorem tot_take_succ (ps : List ByteArray) (k : Nat) (hk : k < ps.length) : Cm.tot (ps.take (k + 1)) = Cm.tot (ps.take k) + (ps[k]?.getD ⟨#[]⟩).size := by
  rw [List.take_succ_eq_append_getElem hk, Cm.tot_append]
  simp [Cm.tot, hk]

set_option maxRecDepth 40000 in
set_option maxHeartbeats 4000000 in
theorem main_row (id q : ByteArray) (x : Addr) (len cap : Nat) (ps : List ByteArray) (w w0 : World) (hid : id.size ≤ maxLen) (hq : q.size ≤ maxLen) (hlm : len ≤ maxLen) (hst : Strs w (some x) len ps)
    (kc : ∀ ty, (Builtin.copy_ #[22, 22] ty #[.slice (some ⟨w.heap.size, 0, none⟩) len len, .slice (some x) len cap]).run Try.prog (w.alloc (.cells (madeCells #[.string ⟨#[]⟩] len) 9)) = .ok (goInt len) w0)
    (hB : Below w.heap.size w w0) (hgt : w.heap.size < w0.heap.size) (hrow : w0.rowIs w.heap.size 9 len (fun j => .string (ps[j]?.getD ⟨#[]⟩))) :
    Calls Try.prog 3 #[.string id, .slice (some x) len cap, .string q] w fun e w' => e = .returned (.bool true) ∧ Below w.heap.size w w' := by
  have kn := fun a n c w => run_neq_slice_nil_any (P := Try.prog) w 22 9 a n c 0 0 Try.underlying22
  have HST : Hid (Strs w (some x) len ps) := hst
  have HI : Hid (id.size ≤ maxLen) := hid
  have HQ : Hid (q.size ≤ maxLen) := hq
  have HM : Hid (len ≤ maxLen) := hlm
  have HROW : Hid (w0.rowIs w.heap.size 9 len (fun j => .string (ps[j]?.getD ⟨#[]⟩))) := hrow
  have HPL : Hid (ps.length = len) := hst.1
  clear hst hid hq hlm hrow
  go_enter Try.func3, Try.ntmps3
  go_wp2_with fail
  refine (bytes_any id q (some x) len cap ps _ HI.out HQ.out HM.out HST.out).mono ?_
  rintro e wx ⟨b, rfl, hw, hb⟩
  obtain rfl := hw.symm
  cases b with
  | false =>
    clear hb
    go_wp2
    go_ret
    exact ⟨rfl, Below.refl _ _⟩
  | true =>
    obtain ⟨hl2, hi2, hq2, hp2⟩ := hb rfl
    have HP2 : Hid (∀ p ∈ ps, p.size ≤ 1048576) := hp2
    clear hb hp2
    have hi3 : (id.size : Int) ≤ 1048576 := by omega
    have hq3 : (q.size : Int) ≤ 1048576 := by omega
    have hl3 : (len : Int) ≤ 1048576 := by omega
    have km := fun w => run_make_row' (P := Try.prog) 22 9 (.string ⟨#[]⟩) 16 Try.underlying22 Cm.infoE rfl .i64 .i64 len (by omega) (by omega) w
    by_cases hsum : 1048576 < (id.size : Int) + (q.size : Int)
    · go_wp2
      go_ret
      exact ⟨rfl, hB⟩
    · go_wp2
      clear kc km kn
      go_loop [8, 9] (fun n i => ∃ (k : Nat) (N : Int), k ≤ len ∧ 0 ≤ N ∧ N ≤ 1048576 ∧ i = .int .i64 k ∧ n = .int .i64 N ∧ Hid (N = (id.size : Int) + (q.size : Int) + 16 * (k : Int) + (Cm.tot (ps.take k) : Int))) (fun _ i => len - (intOf i).toNat)
      case atStart => exact ⟨0, _, Nat.zero_le _, by omega, by omega, rfl, rfl, by show _ = _; simp [Cm.tot]⟩
      case round =>
        obtain ⟨k, N, hk, hN0, hN1, rfl, rfl, hN⟩ := hrel
        by_cases hlt : k < len
        · have hltI : (k : Int) < (len : Int) := by omega
          have hck := HROW.out.cell hlt
          obtain ⟨p, hp⟩ : ∃ p, ps[k]?.getD ⟨#[]⟩ = p := ⟨_, rfl⟩
          rw [hp] at hck
          have hkp : k < ps.length := by rw [HPL.out]; exact hlt
          have hpm : p.size ≤ 1048576 := by
            have e : ps[k] = p := by rw [← hp]; simp [hkp]
            rw [← e]
            exact HP2.out _ (List.getElem_mem hkp)
          have hpI : (p.size : Int) ≤ 1048576 := by omega
          have hts : Hid (Cm.tot (ps.take (k + 1)) = Cm.tot (ps.take k) + p.size) := by show _ = _; rw [tot_take_succ ps k hkp, hp]
          clear hp
          by_cases hnb : 1048576 < N + (16 + (p.size : Int))
          · go_wp2
            go_ret
            exact ⟨rfl, hB⟩
          · go_wp2
            go_round
            case rel => exact ⟨k + 1, N + (16 + (p.size : Int)), by omega, by omega, by omega, by go_num, rfl, by show _ = _; have := hN.out; have := hts.out; omega⟩
            case measure => simp [intOf]; omega
        · have hltI : ¬ (k : Int) < (len : Int) := by omega
          have hbd : id.size + q.size + 16 * len + Cm.tot ps ≤ 1048576 := by
            have := hN.out
            have e : k = len := by omega
            subst e
            rw [List.take_of_length_le (by rw [HPL.out]; omega)] at this
            omega
          have km := fun w => run_make_row' (P := Try.prog) 22 9 (.string ⟨#[]⟩) 16 Try.underlying22 Cm.infoE rfl .i64 .i64 (len + 1) (by omega) (by omega) w
          rw [Int.natCast_add, Int.natCast_one] at km
          have e1 := Cm.rc_nil id
          have E1 : Hid (Cm.rc id [] = ⟨#[99, 111, 109, 109, 105, 116, 32]⟩ ++ id) := e1
          have E2 : Hid (Cm.rc id (ps ++ [q]) = Cm.rc id ps ++ ⟨#[32]⟩ ++ q) := Cm.rc_snoc id ps q
          have hz : (Cm.rc id ps).size ≤ 4194304 := by rw [Cm.rc_size, HPL.out]; omega
          clear e1 hN
          go_wp2
          clear km hlt hltI
          go_loopw [11] (fun i wr => ∃ k2 : Nat, k2 ≤ len ∧ i = .int .i64 k2 ∧ wr.rowIs w0.heap.size 9 (len + 1) (fun j => if j < k2 then .string (ps[j]?.getD ⟨#[]⟩) else .string ⟨#[]⟩) ∧ Below w0.heap.size w0 wr ∧ w0.heap.size < wr.heap.size) (fun i _ => len - (intOf i).toNat)
          case atStart =>
            exact ⟨0, Nat.zero_le _, rfl, (World.rowIs_made w0 (.string ⟨#[]⟩) (len + 1) 9).congr (fun i _ => by simp), (Below.refl _ _).alloc (Nat.le_refl _) _, by simp⟩
          case round =>
            obtain ⟨k2, hk2, rfl, hr2, hB2, hz2⟩ := hrel
            by_cases hlt : k2 < len
            · have hltI : (k2 : Int) < (len : Int) := by omega
              have hidx : (k2 : Int) < (len : Int) + 1 := by omega
              have hs : wr.cell? ⟨w.heap.size, k2, none⟩ = some (.string (ps[k2]?.getD ⟨#[]⟩)) := (hB2.cell (p := ⟨w.heap.size, k2, none⟩) hgt).trans (HROW.out.cell hlt)
              have hd : wr.cell? ⟨w0.heap.size, k2, none⟩ = some (.string ⟨#[]⟩) := by rw [hr2.cell (by omega)]; simp
              have hf := hr2.frozen k2
              obtain ⟨p, hp⟩ : ∃ p, ps[k2]?.getD ⟨#[]⟩ = p := ⟨_, rfl⟩
              rw [hp] at hs
              have HP : Hid (ps[k2]?.getD ⟨#[]⟩ = p) := hp
              clear hp
              go_wp2
              go_roundw
              case rel =>
                refine ⟨k2 + 1, by omega, by go_num, (hr2.set k2 _).congr ?_, hB2.setCell (Nat.le_refl _) _, by simpa using hz2⟩
                intro j hj
                by_cases e : j = k2
                · subst e; simp [HP.out]
                · simp only [if_neg e]; by_cases e2 : j < k2
                  · rw [if_pos e2, if_pos (by omega)]
                  · rw [if_neg e2, if_neg (by omega)]
              case measure => simp [intOf]; omega
            · have hltI : ¬ (k2 : Int) < (len : Int) := by omega
              have hidx : (len : Int) < (len : Int) + 1 := by omega
              have hd : wr.cell? ⟨w0.heap.size, len, none⟩ = some (.string ⟨#[]⟩) := by rw [hr2.cell (by omega), if_neg (by omega)]
              have hf := hr2.frozen len
              have hr3 := hr2.set len (.string q)
              have CL : Hid (∀ (j : Nat) y, (ps ++ [q])[j]? = some y → (wr.setCell ⟨w0.heap.size, len, none⟩ (.string q)).cell? ((⟨w0.heap.size, 0, none⟩ : Addr).add j) = some (.string y)) := by
                intro j y hj
                have hjl : j < len + 1 := by have := (List.getElem?_eq_some_iff.1 hj).1; rw [List.length_append, HPL.out] at this; simpa using this
                rw [add_zero, hr3.cell hjl]
                by_cases e : j = len
                · rw [if_pos e]
                  rw [List.getElem?_append_right (by rw [HPL.out]; omega), HPL.out, e] at hj
                  simp at hj
                  rw [hj]
                · rw [if_neg e, if_pos (by omega)]
                  rw [List.getElem?_append_left (by rw [HPL.out]; omega)] at hj
                  rw [hj]; rfl
              have CP : Hid (∀ (j : Nat) y, ps[j]? = some y → (wr.setCell ⟨w0.heap.size, len, none⟩ (.string q)).cell? ((⟨w.heap.size, 0, none⟩ : Addr).add j) = some (.string y)) := by
                intro j y hj
                have hjl : j < len := by have := (List.getElem?_eq_some_iff.1 hj).1; rw [HPL.out] at this; exact this
                rw [add_zero, World.cell?_setCell_other wr ⟨w0.heap.size, len, none⟩ ⟨w.heap.size, j, none⟩ (.string q) (fun h => by simp only [Addr.mk.injEq] at h; omega), hB2.cell (p := ⟨w.heap.size, j, none⟩) hgt, HROW.out.cell hjl, hj]
                rfl
              have BW : Hid (Below w.heap.size w (wr.setCell ⟨w0.heap.size, len, none⟩ (.string q))) :=
                (hB.trans (hB2.mono (by omega))).setCell (p := ⟨w0.heap.size, len, none⟩) (by show w.heap.size ≤ w0.heap.size; omega) _
              have hz3 : w0.heap.size < (wr.setCell ⟨w0.heap.size, len, none⟩ (.string q)).heap.size := by simpa using hz2
              have Z3 : Hid (w0.heap.size < (wr.setCell ⟨w0.heap.size, len, none⟩ (.string q)).heap.size) := hz3
              clear hr3 hr2 hz3
              go_wp2_with fail
              refine (Cm.zz_nil id (by omega) _).mono ?_
              rintro e w1 ⟨rfl, b1⟩
              have B1 : Hid (Below (wr.setCell ⟨w0.heap.size, len, none⟩ (.string q)).heap.size (wr.setCell ⟨w0.heap.size, len, none⟩ (.string q)) w1) := b1
              clear b1
              have e1 := E1.out
              have hn1 : ¬ 9223372036854775807 < 7 + id.size := by omega
              go_wp2_with fail
              refine (Cm.zz_row id ⟨w0.heap.size, 0, none⟩ (len + 1) (len + 1) (ps ++ [q]) (by omega) ?hl1 (by omega) ?ht1 _ ?hc1).mono ?_
              case hl1 => rw [List.length_append, HPL.out]; rfl
              case ht1 => rw [Cm.tot_append]; simp only [Cm.tot]; omega
              case hc1 =>
                intro j y hj
                have := CL.out j y hj
                rw [add_zero] at this ⊢
                rw [B1.out.cell (p := ⟨w0.heap.size, j, none⟩) Z3.out]
                exact this
              rintro e w2 ⟨rfl, b2⟩
              have B2 : Hid (Below w1.heap.size w1 w2) := b2
              clear b2
              go_wp2_with fail
              refine (Cm.zz_row id ⟨w.heap.size, 0, none⟩ len len ps (by omega) HPL.out (by omega) (by omega) _ ?hc2).mono ?_
              case hc2 =>
                intro j y hj
                have := CP.out j y hj
                have hz := Z3.out
                have hz1 := B1.out.size
                rw [add_zero] at this ⊢
                rw [B2.out.cell (p := ⟨w.heap.size, j, none⟩) (by show w.heap.size < w1.heap.size; omega), B1.out.cell (p := ⟨w.heap.size, j, none⟩) (by show w.heap.size < _; omega)]
                exact this
              rintro e w3 ⟨rfl, b3⟩
              have e2 := E2.out
              have hn2 : ¬ 9223372036854775807 < (Cm.rc id ps).size + 1 := by omega
              have hn3 : ¬ 9223372036854775807 < (Cm.rc id ps).size + 1 + q.size := by omega
              go_wp2
              go_ret
              have k1 := BW.out.trans (B1.out.mono BW.out.size)
              have k2 := k1.trans (B2.out.mono k1.size)
              exact ⟨rfl, k2.trans (b3.mono k2.size)⟩

/-- The law's walk, whatever comes in. -/
theorem law (id q : ByteArray) (a : Option Addr) (len cap : Nat) (ps : List ByteArray) (w : World) (hid : id.size ≤ maxLen) (hq : q.size ≤ maxLen) (hlm : len ≤ maxLen) (hcap : a = none → cap = 0) (hst : Strs w a len ps) :
    Calls Try.prog 3 #[.string id, .slice a len cap, .string q] w fun e w' => e = .returned (.bool true) ∧ Below w.heap.size w w' := by
  cases a with
  | none =>
    obtain rfl := hst.2.1 rfl
    obtain rfl := hcap rfl
    exact main_nil id q w hid hq
  | some x =>
    obtain ⟨w0, kc, hB, hgt, hrow⟩ := copied x len cap ps w hst
    exact main_row id q x len cap ps w w0 hid hq hlm hst kc hB hgt hrow
end Go.Proofs.Qxb6616558a.Lw
