/-
  The law's map of the keys that were seen, its copy of the keys and its bound on the lengths, at seat b6616406a's dump.
-/
import Derived.Test.Qxb6616406aHelp
namespace Go.Proofs.Qxb6616406a.Rg
open Go.RowKit Go.Maps
set_option linter.unusedVariables false

/-- How a bool in the map reads. -/
def Rb : Value → Option (DataW Unit × List MemPlace)
  | .bool b => some (.lit (.bool b), [])
  | _ => none

theorem Rb_inv {v : Value} {ps : List MemPlace} {b : Bool} (h : Rb v = some (.lit (.bool b), ps)) : v = .bool b := by
  unfold Rb at h
  split at h
  · simp at h; rw [h.1]
  · cases h

/-- Is the key among them? -/
def inl : List ByteArray → ByteArray → Bool
  | [], _ => false
  | p :: r, s => if p = s then true else inl r s

theorem inl_iff : ∀ (l : List ByteArray) (s : ByteArray), inl l s = true ↔ s ∈ l
  | [], s => by simp [inl]
  | p :: r, s => by
    simp only [inl, List.mem_cons]
    by_cases e : p = s
    · simp [e]
    · rw [if_neg e, inl_iff r s]; simp [Ne.symm e]

theorem inl_snoc_same (l : List ByteArray) (s : ByteArray) : inl (l ++ [s]) s = true := (inl_iff _ _).2 (by simp)
theorem inl_snoc_other (l : List ByteArray) (s t : ByteArray) (h : t ≠ s) : inl (l ++ [s]) t = inl l t := by
  have : inl (l ++ [s]) t = true ↔ inl l t = true := by rw [inl_iff, inl_iff]; simp [h]
  cases h1 : inl (l ++ [s]) t <;> cases h2 : inl l t <;> simp_all

/-- Block M is the map of the keys that were seen. -/
def SeenIs (w : World) (M : Nat) (l : List ByteArray) : Prop :=
  ∃ D : DataW Unit, w.ownsMap Try.prog 9 Rb M l.length D ∧ Maps.size D = l.length ∧ (∀ s, D.atKey (kl s) (.lit (.bool false)) = .lit (.bool (inl l s))) ∧ (∀ s, Maps.has D (kl s) = inl l s)

theorem retightB {w : World} {M n : Nat} {D : DataW Unit} (h : w.ownsMap Try.prog 9 Rb M n D) : w.ownsMap Try.prog 9 Rb M (Maps.size D) D := by
  obtain ⟨es, clock, hb, F, hs, rfl⟩ := h
  exact ⟨es, clock, hb, F, by simp [Maps.size, length_sorted], rfl⟩

theorem zero4 (w : World) : (zeroValue 4).run Try.prog w = .ok (.bool false) w := Try.zeroValue4 w

theorem SeenIs.look {w : World} {M : Nat} {l : List ByteArray} (h : SeenIs w M l) {s : ByteArray} (hs : s.size ≤ maxLen) :
    (Instr.lookup 27 (.map (some M)) (.string s) false).run Try.prog w = .ok (.bool (inl l s)) w := by
  obtain ⟨D, hown, _, hat, _⟩ := h
  obtain ⟨v, ps, hrun, hv⟩ := hown.lookup law9 Try.underlying27 (zero4 w) (show Rb (.bool false) = some (.lit (.bool false), []) from rfl) (keyOf9 hs)
  rw [hat s] at hv
  rw [hrun, Rb_inv hv]

theorem SeenIs.store {w : World} {M : Nat} {l : List ByteArray} (h : SeenIs w M l) {s : ByteArray} (hs : s.size ≤ maxLen) (hn : s ∉ l) (hl : l.length < 1073741824) :
    ∃ w', (Instr.mapUpdate 27 (.map (some M)) (.string s) (.bool true)).run Try.prog w = .ok () w' ∧ SeenIs w' M (l ++ [s]) ∧ w.mapTurned w' M := by
  obtain ⟨D, hown, hsz, hat, hh⟩ := h
  obtain ⟨w', hrun, hown', ht⟩ := hown.store law9 Try.underlying27 (by unfold maxLen; omega) (keyOf9 hs) (show Rb (.bool true) = some (.lit (.bool true), []) from rfl)
  have tidy := hown.tidy law9
  have hhs : Maps.has D (kl s) = false := by rw [hh s]; cases h : inl l s; rfl; exact absurd ((inl_iff l s).1 h) hn
  have hsz' : Maps.size (D.put (kl s) (.lit (.bool true))) = (l ++ [s]).length := by
    rw [Maps.size_put tidy, hhs]; simp [hsz]
  refine ⟨w', hrun, ⟨_, by rw [← hsz']; exact retightB hown', hsz', fun t => ?_, fun t => ?_⟩, ht⟩
  · by_cases e : t = s
    · subst e; rw [Maps.atKey_put_same hown.isMap (kl_key t), inl_snoc_same]
    · rw [Maps.atKey_put_other (fun h => e (kl_inj h)), hat t, inl_snoc_other l s t e]
  · by_cases e : t = s
    · subst e; rw [Maps.has_put_same hown.isMap (kl_key t), inl_snoc_same]
    · rw [Maps.has_put_other (fun h => e (kl_inj h)), hh t, inl_snoc_other l s t e]

theorem SeenIs.made (w : World) : SeenIs (w.alloc (.map #[] 0)) w.heap.size [] :=
  ⟨_, World.ownsMap_made w Try.prog 9 Rb, rfl, fun s => by rfl, fun s => by rfl⟩

theorem makeSeen (n : Nat) (w : World) : (Instr.makeMap 27 (some (.int .i64 n))).run Try.prog w = .ok (.map (some w.heap.size)) (w.alloc (.map #[] 0)) := by
  kernel_rfl

/-- A slice of strings that came in: its strings. -/
def Strs (w : World) (a : Option Addr) (len : Nat) (ps : List ByteArray) : Prop :=
  ps.length = len ∧ (a = none → len = 0) ∧ (∀ x, a = some x → ∀ (j : Nat) u, ps[j]? = some u → w.cell? (x.add j) = some (.string u)) ∧ (∀ p ∈ ps, p.size ≤ maxLen)

theorem strs_at {w : World} {x : Addr} {len : Nat} {ps : List ByteArray} (h : Strs w (some x) len ps) (hp : 0 < len) :
    ∃ b off, x = ⟨b, off, none⟩ ∧ b < w.heap.size ∧ ∀ (j : Nat) (hj : j < ps.length), w.cell? ⟨b, off + j, none⟩ = some (.string ps[j]) := by
  obtain ⟨hl, _, hc, _⟩ := h
  obtain ⟨b, off, spot⟩ := x
  have h0 := hc _ rfl 0 ps[0] (List.getElem?_eq_getElem (by omega))
  have hspot : spot = none := by simpa [Addr.add] using World.cell?_spot h0
  subst hspot
  refine ⟨b, off, rfl, World.block_lt_of_cell? w _ h0, fun j hj => ?_⟩
  have hadd : (⟨b, off, none⟩ : Addr).add j = ⟨b, off + j, none⟩ := by unfold Addr.add; split <;> simp_all
  rw [← hadd]
  exact hc _ rfl j _ (List.getElem?_eq_getElem hj)

/-- What the walks want of the keys that came in: none; or they lie in a row of an old block. -/
def Lies (w : World) (a : Option Addr) (len : Nat) (ps : List ByteArray) : Prop :=
  ps.length = len ∧ (len = 0 ∨ ∃ b off, a = some ⟨b, off, none⟩ ∧ b < w.heap.size ∧ ∀ j, j < len → w.cell? ⟨b, off + j, none⟩ = some (.string (ps[j]?.getD ⟨#[]⟩)))

theorem lies_of {w : World} {a : Option Addr} {len : Nat} {ps : List ByteArray} (h : Strs w a len ps) : Lies w a len ps := by
  refine ⟨h.1, ?_⟩
  rcases Nat.eq_zero_or_pos len with h0 | hp
  · exact .inl h0
  · cases a with
    | none => exact .inl (h.2.1 rfl)
    | some x =>
      obtain ⟨b, off, rfl, hb, hc⟩ := strs_at h hp
      exact .inr ⟨b, off, rfl, hb, fun j hj => by rw [hc j (by rw [h.1]; exact hj)]; simp [h.1, hj]⟩

theorem Lies.below {w w' : World} {a : Option Addr} {len : Nat} {ps : List ByteArray} (h : Lies w a len ps) (hb : Below w.heap.size w w') : Lies w' a len ps := by
  refine ⟨h.1, ?_⟩
  rcases h.2 with h0 | ⟨b, off, ha, hlt, hc⟩
  · exact .inl h0
  · exact .inr ⟨b, off, ha, by have := hb.size; omega, fun j hj => by rw [hb.cell (p := ⟨b, off + j, none⟩) hlt]; exact hc j hj⟩

/-- What zzBytes answers: no; or yes, and then the lengths are small. -/
def Ans (len : Nat) (ps : List ByteArray) (w : World) (e : Ending) (w' : World) : Prop :=
  ∃ b, e = .returned (.bool b) ∧ w' = w ∧ (b = true → len ≤ 1048576 ∧ ∀ p ∈ ps, p.size ≤ 1048576)
theorem Ans.no {len : Nat} {ps : List ByteArray} {w w' : World} {e : Ending} (he : e = .returned (.bool false)) (hw : w' = w) : Ans len ps w e w' := ⟨false, he, hw, fun h => by cases h⟩
theorem Ans.yes {len : Nat} {ps : List ByteArray} {w w' : World} {e : Ending} (he : e = .returned (.bool true)) (hw : w' = w) (h1 : len ≤ 1048576) (h4 : ∀ p ∈ ps, p.size ≤ 1048576) : Ans len ps w e w' := ⟨true, he, hw, fun _ => ⟨h1, h4⟩⟩

set_option maxRecDepth 40000 in
set_option maxHeartbeats 1000000 in
/-- zzBytes: whatever it answers, the world stands; where it answers yes the lengths are small. -/
theorem bytes_any (a : Option Addr) (len cap : Nat) (ps : List ByteArray) (w : World) (hlm : len ≤ maxLen) (hpm : ∀ p ∈ ps, p.size ≤ maxLen) (hs : Lies w a len ps) :
    Calls Try.prog 9 #[.slice a len cap] w fun e w' => Ans len ps w e w' := by
  unfold maxLen at hlm
  have HS : Hid (Lies w a len ps) := hs
  have HPM : Hid (∀ p ∈ ps, p.size ≤ maxLen) := hpm
  clear hs hpm
  by_cases h2 : 1048576 < len
  · have h2' : (1048576 : Int) < (len : Int) := by omega
    go_enter Try.func9, Try.ntmps9
    go_wp2
    go_ret
    exact Ans.no rfl rfl
  have h2' : (len : Int) ≤ 1048576 := by omega
  go_enter Try.func9, Try.ntmps9
  go_wp2
  go_loop [3, 4] (fun n i => ∃ (k : Nat) (N : Int), k ≤ len ∧ 0 ≤ N ∧ N ≤ 1048576 ∧ i = .int .i64 k ∧ n = .int .i64 N ∧ Hid (∀ p ∈ ps.take k, p.size ≤ 1048576)) (fun _ i => len - (intOf i).toNat)
  case atStart => exact ⟨0, _, Nat.zero_le _, by omega, h2', rfl, rfl, fun p hp => by simp at hp⟩
  case round =>
    obtain ⟨k, N, hk, hN0, hN1, rfl, rfl, hsm⟩ := hrel
    by_cases hlt : k < len
    · obtain ⟨b, off, ha, hb, hc⟩ : ∃ b off, a = some ⟨b, off, none⟩ ∧ b < w.heap.size ∧ ∀ j, j < len → w.cell? ⟨b, off + j, none⟩ = some (.string (ps[j]?.getD ⟨#[]⟩)) := by
        rcases HS.out.2 with h0 | h
        · omega
        · exact h
      subst ha
      have hkp : k < ps.length := by rw [HS.out.1]; exact hlt
      have hck := hc k hlt
      obtain ⟨p, hp⟩ : ∃ p, ps[k] = p := ⟨_, rfl⟩
      have hpm : p.size ≤ maxLen := HPM.out p (by rw [← hp]; exact List.getElem_mem hkp)
      unfold maxLen at hpm
      rw [List.getElem?_eq_getElem hkp, Option.getD_some, hp] at hck
      have HP : Hid (ps.take (k + 1) = ps.take k ++ [p]) := by show _ = _; rw [List.take_succ_eq_append_getElem hkp, hp]
      clear hc hp
      have hltI : (k : Int) < (len : Int) := by omega
      by_cases hpb : 1048576 < p.size
      · have hpb' : (1048576 : Int) < (p.size : Int) := by omega
        go_wp2
        go_ret
        exact Ans.no rfl rfl
      · have hpb' : (p.size : Int) ≤ 1048576 := by omega
        by_cases hnb : 1048576 < N + (p.size : Int)
        · go_wp2
          go_ret
          exact Ans.no rfl rfl
        · go_wp2
          go_round
          case rel => exact ⟨k + 1, N + (p.size : Int), by omega, by omega, by omega, by go_num, rfl, fun p' hp' => by rw [HP.out, List.mem_append] at hp'; rcases hp' with h | h; exact hsm.out p' h; rw [List.mem_singleton.1 h]; omega⟩
          case measure => simp [intOf]; omega
    · have hltI : ¬ (k : Int) < (len : Int) := by omega
      go_wp2
      go_ret
      exact Ans.yes rfl rfl (by omega) (fun p hp => hsm.out p (by rw [List.take_of_length_le (by rw [HS.out.1]; omega)]; exact hp))

theorem info9 : (Try.prog.info? 9).map (fun i => (i.zero, i.size, i.bytes)) = some (some (.string ⟨#[]⟩), 1, 16) := by kernel_rfl

/-- What cloneKeys hands back: a slice of the same strings, in new memory. -/
structure Cloned (w : World) (len : Nat) (ps : List ByteArray) (e : Ending) (w' : World) (a' : Option Addr) (c' : Nat) : Prop where
  he : e = .returned (.slice a' len c')
  bl : Below w.heap.size w w'
  kr : KR w' a' ps

set_option maxRecDepth 20000 in
theorem clone_nil (w : World) : Calls Try.prog 10 #[.slice none 0 0] w fun e w' => ∃ a' c', Cloned w 0 [] e w' a' c' := by
  have kn := fun a n c w => Lib.run_eql_slice_nil (P := Try.prog) w 25 9 a n c 0 0 Try.underlying25
  go_enter Try.func10, Try.ntmps10
  go_wp2
  go_ret
  exact ⟨_, _, rfl, Below.refl _ _, .inl rfl⟩

set_option maxRecDepth 20000 in
set_option maxHeartbeats 1000000 in
theorem clone_row (x : Addr) (len cap : Nat) (ps : List ByteArray) (w : World) (hr : Lies w (some x) len ps) (hlen : len ≤ 1048576) :
    Calls Try.prog 10 #[.slice (some x) len cap] w fun e w' => ∃ a' c', Cloned w len ps e w' a' c' := by
  have kn := fun a n c w => Lib.run_eql_slice_nil (P := Try.prog) w 25 9 a n c 0 0 Try.underlying25
  have km := fun w => run_make_row' (P := Try.prog) 25 9 (.string ⟨#[]⟩) 16 Try.underlying25 info9 rfl .i64 .i64 len (by omega) (by omega) w
  have hlI : (len : Int) ≤ 1048576 := by omega
  obtain ⟨hbl, hr⟩ := hr
  have HBL : Hid (ps.length = len) := hbl
  have HR : Hid (len = 0 ∨ ∃ b off, some x = some ⟨b, off, none⟩ ∧ b < w.heap.size ∧ ∀ i, i < len → w.cell? ⟨b, off + i, none⟩ = some (.string (ps[i]?.getD ⟨#[]⟩))) := hr
  clear hbl hr
  go_enter Try.func10, Try.ntmps10
  go_wp2
  go_loopw [4] (fun i wr => ∃ k : Nat, k ≤ len ∧ i = .int .i64 k ∧ wr.rowIs w.heap.size 9 len (fun j => if j < k then .string (ps[j]?.getD ⟨#[]⟩) else .string ⟨#[]⟩) ∧ Below w.heap.size w wr) (fun i _ => len - (intOf i).toNat)
  case atStart =>
    exact ⟨0, Nat.zero_le _, rfl, (World.rowIs_made w (.string ⟨#[]⟩) len 9).congr (fun i _ => by simp), (Below.refl _ _).alloc (Nat.le_refl _) _⟩
  case round =>
    obtain ⟨k, hk, rfl, hrow, hB⟩ := hrel
    by_cases hlt : k < len
    · rcases HR.out with h0 | ⟨b, off, hx, hb, hcell⟩
      · omega
      obtain rfl : x = ⟨b, off, none⟩ := by simpa using hx
      have hs : wr.cell? ⟨b, off + k, none⟩ = some (.string (ps[k]?.getD ⟨#[]⟩)) := (hB.cell (p := ⟨b, off + k, none⟩) hb).trans (hcell k hlt)
      have hd : wr.cell? ⟨w.heap.size, k, none⟩ = some (.string ⟨#[]⟩) := by rw [hrow.cell hlt]; simp
      have hf := hrow.frozen k
      obtain ⟨p, hp⟩ : ∃ p, ps[k]?.getD ⟨#[]⟩ = p := ⟨_, rfl⟩
      rw [hp] at hs
      have HP : Hid (ps[k]?.getD ⟨#[]⟩ = p) := hp
      clear hcell hx hp
      go_wp2
      go_roundw
      case rel =>
        refine ⟨k + 1, by omega, by go_num, (hrow.set k _).congr ?_, hB.setCell (Nat.le_refl _) _⟩
        intro j hj
        by_cases e : j = k
        · subst e; simp [HP.out]
        · simp only [if_neg e]; by_cases e2 : j < k
          · rw [if_pos e2, if_pos (by omega)]
          · rw [if_neg e2, if_neg (by omega)]
      case measure => simp [intOf]; omega
    · go_wp2
      go_ret
      exact ⟨_, _, rfl, hB, .inr ⟨_, rfl, by rw [HBL.out]; exact hrow.congr (fun i hi => by rw [if_pos (by omega)])⟩⟩

theorem clone_any (a : Option Addr) (len cap : Nat) (ps : List ByteArray) (w : World) (hr : Lies w a len ps) (hlen : len ≤ 1048576) (h0 : a = none → len = 0 ∧ cap = 0) :
    Calls Try.prog 10 #[.slice a len cap] w fun e w' => ∃ a' c', Cloned w len ps e w' a' c' := by
  cases a with
  | none =>
    obtain ⟨rfl, rfl⟩ := h0 rfl
    obtain rfl := List.eq_nil_of_length_eq_zero hr.1
    exact clone_nil w
  | some x => exact clone_row x len cap ps w hr hlen
end Go.Proofs.Qxb6616406a.Rg
