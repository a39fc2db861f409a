/-
  THE SHELL OF A PROOF OF 'Rows.FnAppendStringIndependentOfRecordSaid' ('example.com/symbolwalk/symbolwalk/zzlaws_internal_graph_b1.FnAppendStringIndependentOfRecord'), WRITTEN BY PROGRAM (proof-skeleton.mjs, third state) off the guide's own print for that function. Not trusted: the kernel checks it.
  THE WALK IS MINE; ALL ELSE IS THE GUIDE's OWN WAY (howto/template/XProofs.lean; Derived/Test/ChunkProofs.lean for 'Below') at this function's number and types.
-/
import Derived.Test.Qxb6616417aRows
import Derived.WalkKit
import Derived.ProofKit
import Derived.OpenShut
import Derived.ShutString
import Derived.ChangeOld
import Derived.Below
import Derived.WalkSpells
import Derived.Outline
import Derived.Deep.QuietTactic
import Derived.BigQuiet
import Derived.WalkSmall
import Derived.Test.Qxb6616417aFrames
namespace Go.Proofs.Qxb6616417a.fnAppendStringIndependentOfRecord
open Go.ChangeShapes Go.WideShapes Go.ChangeAt Go.RowKit
open Go.ChangeMaps (open_string shut_string)
set_option linter.unusedVariables false

theorem own : ownKnob Try.prog.godebug = none := by kernel_rfl
theorem laidOut : laidOutB Try.prog = true := by kernel_rfl

/-- WHAT THE WALK IS TOLD OF A SLICE OF INTEGERS THAT CAME IN: it is nil; or it leads to a row of 'cap' cells, the numbers 'zs' (the first 'len' are its elements, the rest its spare room), each fitting its kind. -/
def IsRow (k : IntKind) (w : World) (a : Option Addr) (len cap : Nat) (zs : List Int) : Prop :=
  (a = none ∧ len = 0 ∧ cap = 0 ∧ zs = []) ∨
  ∃ x, a = some x ∧ len ≤ cap ∧ cap ≤ maxLen ∧ zs.length = cap ∧ (∀ i, i < zs.length → w.cell? (x.add i) = some (.int k (zs.getD i 0))) ∧ ∀ n ∈ zs, (Lit.int k n).wf = true

/-! ### STEP 1: THE WALK: the Go text returns true, AND WRITES NOTHING THAT WAS THERE: 'Below w.heap.size w w'' (Derived/Below.lean: '.refl', '.alloc', '.drew', '.setCell' at a new block, '.trans'). Open each 'IsRow' by 'rcases' AHEAD of 'go_enter'; part every test ahead of the walk. -/

/-- zzBytes: yes where the two lengths add up to at most 1<<20. -/
theorem bytes_yes (a : Option Addr) (n cap : Nat) (t : ByteArray) (hl : n + t.size ≤ 1048576) (w : World) :
    Calls Try.prog 16 #[.slice a n cap, .string t] w fun e w' => e = .returned (.bool true) ∧ w' = w := by
  have h1 : (n : Int) + (t.size : Int) ≤ 1048576 := by omega
  have h2 : (n : Int) ≤ 1048576 := by omega
  have h3 : (t.size : Int) ≤ 1048576 := by omega
  go_enter Try.func16, Try.ntmps16
  go_wp2
  go_ret
  exact ⟨rfl, rfl⟩

theorem bytes_no (a : Option Addr) (n cap : Nat) (t : ByteArray) (hs : n ≤ maxLen) (ht : t.size ≤ maxLen) (hl : 1048576 < n + t.size) (w : World) :
    Calls Try.prog 16 #[.slice a n cap, .string t] w fun e w' => e = .returned (.bool false) ∧ w' = w := by
  unfold maxLen at hs ht
  by_cases h2 : 1048576 < n
  · have h2' : (1048576 : Int) < (n : Int) := by omega
    go_enter Try.func16, Try.ntmps16
    go_wp2
    go_ret
    exact ⟨rfl, rfl⟩
  · have h2' : (n : Int) ≤ 1048576 := by omega
    by_cases h3 : 1048576 < t.size
    · have h3' : (1048576 : Int) < (t.size : Int) := by omega
      go_enter Try.func16, Try.ntmps16
      go_wp2
      go_ret
      exact ⟨rfl, rfl⟩
    · have h3' : (t.size : Int) ≤ 1048576 := by omega
      have h1 : (1048576 : Int) < (n : Int) + (t.size : Int) := by omega
      go_enter Try.func16, Try.ntmps16
      go_wp2
      go_ret
      exact ⟨rfl, rfl⟩

theorem early (a : Option Addr) (n cap : Nat) (t : ByteArray) (hs : n ≤ maxLen) (ht : t.size ≤ maxLen) (hl : 1048576 < n + t.size) (w : World) :
    Calls Try.prog 6 #[.slice a n cap, .string t] w fun e w' => e = .returned (.bool true) ∧ Below w.heap.size w w' := by
  go_enter Try.func6, Try.ntmps6
  go_wp2_with (go_at_call 16; refine (bytes_no a n cap t hs ht hl _).mono ?_; rintro e w' ⟨rfl, rfl⟩)
  go_ret
  exact ⟨rfl, Below.refl _ _⟩

theorem early2 (a : Option Addr) (n cap : Nat) (t : ByteArray) (hl : n + t.size ≤ 1048576) (h : 524288 < n ∨ (n ≤ 524288 ∧ 524288 < t.size)) (w : World) :
    Calls Try.prog 6 #[.slice a n cap, .string t] w fun e w' => e = .returned (.bool true) ∧ Below w.heap.size w w' := by
  rcases h with h | ⟨h, g⟩
  · have h' : (524288 : Int) < (n : Int) := by omega
    go_enter Try.func6, Try.ntmps6
    go_wp2_with (go_at_call 16; refine (bytes_yes a n cap t hl _).mono ?_; rintro e w' ⟨rfl, rfl⟩)
    go_ret
    exact ⟨rfl, Below.refl _ _⟩
  · have h' : (n : Int) ≤ 524288 := by omega
    have g' : (524288 : Int) < (t.size : Int) := by omega
    go_enter Try.func6, Try.ntmps6
    go_wp2_with (go_at_call 16; refine (bytes_yes a n cap t hl _).mono ?_; rintro e w' ⟨rfl, rfl⟩)
    go_ret
    exact ⟨rfl, Below.refl _ _⟩

theorem uvarint_hi (x : Nat) : ∀ j, j + 1 < (Lib.uvarint x).length → 128 ≤ (((Lib.uvarint x)[j]?.getD 0).toNat : Int) := by
  induction x using Nat.strongRecOn with
  | ind x ih =>
    intro j hj
    by_cases h : x < 128
    · rw [Lib.uvarint_small h] at hj; simp at hj
    · rw [Lib.uvarint_big (by omega)] at hj ⊢
      cases j with
      | zero =>
        simp only [List.getElem?_cons_zero, Option.getD_some]
        rw [Lib.toUInt8_toNat (by omega)]; omega
      | succ j =>
        simp only [List.getElem?_cons_succ]
        exact ih (x / 128) (by omega) j (by simpa using hj)

theorem uvarint_lo (x : Nat) : (((Lib.uvarint x)[(Lib.uvarint x).length - 1]?.getD 0).toNat : Int) < 128 := by
  induction x using Nat.strongRecOn with
  | ind x ih =>
    by_cases h : x < 128
    · rw [Lib.uvarint_small h]
      simp only [List.length_singleton, Nat.sub_self, List.getElem?_cons_zero, Option.getD_some]
      rw [Lib.toUInt8_toNat (by omega)]; omega
    · have hp := Lib.uvarint_pos (x / 128)
      rw [Lib.uvarint_big (by omega)]
      simp only [List.length_cons, Nat.add_sub_cancel]
      have e : (Lib.uvarint (x / 128)).length = ((Lib.uvarint (x / 128)).length - 1) + 1 := by omega
      rw [e, List.getElem?_cons_succ]
      exact ih (x / 128) (by omega)

set_option maxRecDepth 40000 in
set_option maxHeartbeats 4000000 in
theorem main (a0 : Option Addr) (len0 cap0 K : Nat) (bs : List UInt8) (s : ByteArray) (w : World) (hr : Fr.Rec w a0 len0 bs) (hnil : a0 = none → len0 = 0) (hl : len0 ≤ 524288) (hs : s.size ≤ 524288) (hK : (Lib.uvarint s.size).length = K) :
    Calls Try.prog 6 #[.slice a0 len0 cap0, .string s] w fun e w' => e = .returned (.bool true) ∧ Below w.heap.size w w' := by
  have hlI : (len0 : Int) ≤ 524288 := by omega
  have hsI : (s.size : Int) ≤ 524288 := by omega
  have hK1 : 1 ≤ K := by have := Lib.uvarint_pos s.size; omega
  have hK2 : K ≤ 10 := by have := Lib.uvarint_length64 (x := s.size) (by omega); omega
  have HK : Hid ((Lib.uvarint s.size).length = K) := hK
  have HN : Hid (a0 = none → len0 = 0) := hnil
  have HR : Hid (Fr.Rec w a0 len0 bs) := hr
  clear hK hnil hr
  go_enter Try.func6, Try.ntmps6
  go_wp2_with (go_at_call 16; refine (bytes_yes _ _ _ s (by omega) _).mono ?_; rintro e wx ⟨rfl, hw⟩; obtain rfl := hw.symm)
  refine (Fr.clone_any _ _ _ bs _ HR.out HN.out (by omega)).mono ?_
  rintro e w1 ⟨v1, rfl, o1, b1⟩
  have O1 : Hid (w1.ownsRow w.heap.size 5 1 v1 len0 (Lib.byteCells bs)) := o1
  clear o1
  go_wp2_with fail
  refine (Fr.append_open w.heap.size len0 K s (by omega) HK.out v1 bs _ O1.out b1.size (by omega)).mono ?_
  rintro e w2 ⟨g, cap, rfl, o2, hg1, hg2, r2, b2⟩
  have hl2 : (bs ++ Fr.frame s).length = len0 + (K + s.size) := by rw [List.length_append, Fr.frame_length, HK.out, HR.out.1]
  clear o2
  have R2 : Hid (Fr.Row w2 g (bs ++ Fr.frame s)) := r2
  clear r2
  go_wp2_with fail
  refine (Fr.append_open w2.heap.size 0 K s (by omega) HK.out _ [] _ (World.ownsRow_nil _ _ _ _) (Nat.le_refl _) (by omega)).mono ?_
  rintro e W ⟨g2, cap2, rfl, o3, hg3, hg4, r3, b3⟩
  clear o3
  have R3 : Hid (∀ i, i < K + s.size → W.cell? ⟨g2, i, none⟩ = some (.int .u8 (((Fr.frame s)[i]?.getD 0).toNat : Int))) := fun i hi => r3 i (by simp only [List.nil_append]; rw [Fr.frame_length, HK.out]; exact hi)
  have R2' : Hid (∀ i, i < len0 + (K + s.size) → W.cell? ⟨g, i, none⟩ = some (.int .u8 (((bs ++ Fr.frame s)[i]?.getD 0).toNat : Int))) := fun i hi => R2.out.below b3 hg2 i (by rw [hl2]; exact hi)
  have BW : Hid (Below w.heap.size w W) := by
    have c1 := b1.trans (b2.mono (Nat.le_refl _))
    exact c1.trans (b3.mono c1.size)
  clear r3 R2 b1 b2 b3 hl2 hg1 hg2 hg3 hg4 O1
  go_wp2_with fail
  refine (Fr.uvlen_any s.size (by omega) _).mono ?_
  rintro e wx ⟨rfl, hw⟩
  obtain rfl := hw.symm
  rw [HK.out]
  go_wp2
  go_loop [9] (fun i => ∃ k : Nat, k ≤ K - 1 ∧ i = .int .i64 k) (fun i => K - (intOf i).toNat)
  case atStart => exact ⟨0, Nat.zero_le _, rfl⟩
  case round =>
    obtain ⟨k, hk, rfl⟩ := hrel
    by_cases hlt : k < K - 1
    · have hltI : (k : Int) < (K : Int) - 1 := by omega
      have hidx : (k : Int) < (K : Int) + (s.size : Int) := by omega
      have hc := R3.out k (by omega)
      obtain ⟨c, hcc⟩ : ∃ c : Int, (((Fr.frame s)[k]?.getD 0).toNat : Int) = c := ⟨_, rfl⟩
      have hc128 : 128 ≤ c := by
        have := uvarint_hi s.size k (by rw [HK.out]; omega)
        rw [← hcc, Fr.frame, List.getElem?_append_left (by rw [HK.out]; omega)]
        exact this
      rw [hcc] at hc
      clear hcc
      go_wp2
      go_round
      case rel => exact ⟨k + 1, by omega, by go_num⟩
      case measure => simp [intOf]; omega
    · have hltI : ¬ (k : Int) < (K : Int) - 1 := by omega
      have hidx : (K : Int) - 1 < (K : Int) + (s.size : Int) := by omega
      have hc := R3.out (K - 1) (by omega)
      obtain ⟨c, hcc⟩ : ∃ c : Int, (((Fr.frame s)[K - 1]?.getD 0).toNat : Int) = c := ⟨_, rfl⟩
      have hc128 : c < 128 := by
        have := uvarint_lo s.size
        rw [HK.out] at this
        rw [← hcc, Fr.frame, List.getElem?_append_left (by rw [HK.out]; omega)]
        exact this
      rw [hcc] at hc
      clear hcc
      go_wp2
      clear hc hc128 hltI hidx hlt
      go_loopw [10] (fun i wr => ∃ k2 m : Nat, k2 ≤ s.size ∧ i = .int .i64 k2 ∧ wr = W.drewN m) (fun i _ => s.size - (intOf i).toNat)
      case atStart => exact ⟨0, 0, Nat.zero_le _, rfl, rfl⟩
      case round =>
        obtain ⟨k2, m, hk2, rfl, rfl⟩ := hrel
        by_cases hlt : k2 < s.size
        · have hltI : (k2 : Int) < (s.size : Int) := by omega
          have hidx : (K : Int) + (k2 : Int) < (K : Int) + (s.size : Int) := by omega
          have hc : W.cell? ⟨g2, K + k2, none⟩ = some (.int .u8 (s[k2].toNat : Int)) := by
            rw [R3.out (K + k2) (by omega), Fr.frame, List.getElem?_append_right (by rw [HK.out]; omega), HK.out]
            have e : s.data.toList[K + k2 - K]? = some s[k2] := by
              rw [show K + k2 - K = k2 from by omega, List.getElem?_eq_some_iff]
              exact ⟨by simpa using hlt, rfl⟩
            rw [e]; rfl
          go_wp2_with fail
          go_quiet (fail)
          go_wp2
          go_roundw
          case rel => exact ⟨k2 + 1, _, by omega, by go_num, rfl⟩
          case measure => simp [intOf]; omega
        · have hltI : ¬ (k2 : Int) < (s.size : Int) := by omega
          go_wp2
          clear hltI hlt
          go_loopw [11] (fun i wr => ∃ k3 m : Nat, k3 ≤ len0 ∧ i = .int .i64 k3 ∧ wr = W.drewN m) (fun i _ => len0 - (intOf i).toNat)
          case atStart => exact ⟨0, m, Nat.zero_le _, rfl, rfl⟩
          case round =>
            obtain ⟨k3, m, hk3, rfl, rfl⟩ := hrel
            by_cases hlt : k3 < len0
            · have hltI : (k3 : Int) < (len0 : Int) := by omega
              have hidx : (k3 : Int) < (len0 : Int) + ((K : Int) + (s.size : Int)) := by omega
              obtain ⟨hbl, h0 | ⟨b, off, ha, hb, hcell⟩⟩ := HR.out
              · omega
              subst ha
              obtain ⟨c, hcc⟩ : ∃ c : Int, ((bs[k3]?.getD 0).toNat : Int) = c := ⟨_, rfl⟩
              have hc1 : W.cell? ⟨b, off + k3, none⟩ = some (.int .u8 c) := by rw [BW.out.cell (p := ⟨b, off + k3, none⟩) hb, hcell k3 hlt, hcc]
              have hc2 : W.cell? ⟨g, k3, none⟩ = some (.int .u8 c) := by rw [R2'.out k3 (by omega), List.getElem?_append_left (by omega), hcc]
              clear hcc hcell hbl
              go_wp2_with fail
              go_quiet (fail)
              go_wp2
              go_roundw
              case rel => exact ⟨k3 + 1, _, by omega, by go_num, rfl⟩
              case measure => simp [intOf]; omega
            · have hltI : ¬ (k3 : Int) < (len0 : Int) := by omega
              go_wp2
              clear hltI hlt
              go_loopw [12] (fun i wr => ∃ k4 m : Nat, k4 ≤ K + s.size ∧ i = .int .i64 k4 ∧ wr = W.drewN m) (fun i _ => K + s.size - (intOf i).toNat)
              case atStart => exact ⟨0, m, Nat.zero_le _, rfl, rfl⟩
              case round =>
                obtain ⟨k4, m, hk4, rfl, rfl⟩ := hrel
                by_cases hlt : k4 < K + s.size
                · have hltI : (k4 : Int) < (K : Int) + (s.size : Int) := by omega
                  have hidx : (len0 : Int) + (k4 : Int) < (len0 : Int) + ((K : Int) + (s.size : Int)) := by omega
                  obtain ⟨c, hcc⟩ : ∃ c : Int, (((Fr.frame s)[k4]?.getD 0).toNat : Int) = c := ⟨_, rfl⟩
                  have hc1 : W.cell? ⟨g2, k4, none⟩ = some (.int .u8 c) := by rw [R3.out k4 hlt, hcc]
                  have hc2 : W.cell? ⟨g, len0 + k4, none⟩ = some (.int .u8 c) := by
                    have hbl := HR.out.1
                    rw [R2'.out (len0 + k4) (by omega), List.getElem?_append_right (by omega), show len0 + k4 - bs.length = k4 from by omega, hcc]
                  clear hcc
                  go_wp2_with fail
                  go_quiet (fail)
                  go_wp2
                  go_roundw
                  case rel => exact ⟨k4 + 1, _, by omega, by go_num, rfl⟩
                  case measure => simp [intOf]; omega
                · have hltI : ¬ (k4 : Int) < (K : Int) + (s.size : Int) := by omega
                  go_wp2
                  go_ret
                  exact ⟨rfl, below_drewN BW.out _⟩

/-- A byte slice that came in, as bytes. -/
theorem rec_of (a0 : Option Addr) (len0 cap0 : Nat) (z0 : List Int) (w : World) (h : IsRow .u8 w a0 len0 cap0 z0) :
    ∃ bs, Fr.Rec w a0 len0 bs ∧ (a0 = none → len0 = 0) ∧ len0 ≤ maxLen := by
  rcases h with ⟨rfl, rfl, rfl, rfl⟩ | ⟨x, rfl, hl, hm, hz, hcell, hwz⟩
  · exact ⟨[], ⟨rfl, .inl rfl⟩, fun _ => rfl, by unfold maxLen; omega⟩
  · refine ⟨(z0.take len0).map (fun z => z.toNat.toUInt8), ⟨by simp; omega, ?_⟩, fun h => (by cases h), by omega⟩
    by_cases h0 : len0 = 0
    · exact .inl h0
    · obtain ⟨b, off, spot⟩ := x
      have hc := hcell 0 (by omega)
      have hspot : spot = none := by simpa [Addr.add] using World.cell?_spot hc
      subst hspot
      refine .inr ⟨b, off, rfl, World.block_lt_of_cell? w _ hc, fun i hi => ?_⟩
      have hci := hcell i (by omega)
      have hz0 : i < z0.length := by omega
      have hb := bounds_u8 (hwz z0[i] (List.getElem_mem hz0))
      have e : ((z0.take len0).map (fun z => z.toNat.toUInt8))[i]? = some (z0[i].toNat.toUInt8) := by
        rw [List.getElem?_map, List.getElem?_take, if_pos hi, List.getElem?_eq_getElem hz0]; rfl
      rw [e, Option.getD_some, Lib.toUInt8_toNat (by omega)]
      have e2 : z0.getD i 0 = z0[i] := by simp [hz0]
      rw [e2] at hci
      rw [Int.toNat_of_nonneg hb.1]
      have hadd : (⟨b, off, none⟩ : Addr).add i = ⟨b, off + i, none⟩ := by unfold Addr.add; split <;> simp_all
      rw [hadd] at hci
      exact hci

theorem walk (a0 : Option Addr) (len0 cap0 : Nat) (z0 : List Int) (a1 : ByteArray) (w : World) (w0 : IsRow .u8 w a0 len0 cap0 z0) (w1 : a1.size ≤ maxLen) :
    Calls Try.prog 6 #[.slice a0 len0 cap0, .string a1] w fun e w' => e = .returned (.bool true) ∧ Below w.heap.size w w' := by
  obtain ⟨bs, hr, hnil, hm⟩ := rec_of a0 len0 cap0 z0 w w0
  by_cases h1 : 1048576 < len0 + a1.size
  · exact early a0 len0 cap0 a1 hm w1 h1 w
  by_cases h2 : 524288 < len0 ∨ (len0 ≤ 524288 ∧ 524288 < a1.size)
  · exact early2 a0 len0 cap0 a1 (by omega) h2 w
  exact main a0 len0 cap0 _ bs a1 w hr hnil (by omega) (by omega) rfl

/-! ### THE ROW's STEP: WRITTEN OUT: LEAVE IT -/
set_option maxRecDepth 100000 in
theorem lifted (os : Os) (started : os.Started) (H : Type) (enc : TypeId × Value → H) :
    ReturnsInHanded {} Try.checked os 6 .any (Rows.fnAppendStringIndependentOfRecordSpec.pre6 enc Try.prog Try.f6 Rows.fnAppendStringIndependentOfRecordRow.domain false) (Rows.fnAppendStringIndependentOfRecordSpec.post enc Try.prog Try.f6 false true false false) := by
  refine returnsInHanded_of_change (C := Try.checked) own started (by kernel_rfl) Try.func6
    (ChangeSpec.witness6 (enc := enc) (C := Try.checked) false ⟨#[], #[.slice none 0 0, .string ByteArray.empty], []⟩ 8 (by kernel_rfl) (by kernel_rfl) (by kernel_rfl) (by kernel_rfl)) ?_
  intro W base args ds gs before hval0 hW hcnd _
  have hval : ∀ (j : Nat) t v, Try.f6.params[j]? = some t → args[j]? = some v → Value.okWide Try.prog W .any base t v := hval0
  have hW' := hW
  obtain ⟨p, q, hA0, hV, rfl, hfz, hnd⟩ := hW
  have hA : DataW.TrodAll enc Try.prog W 0 (fun _ => true) true Try.f6.params.toList args.toList ds p := hA0
  rw [Try.params6] at hA hval
  obtain ⟨v0, vs0, d0, ds0, p0, q0, hargs, rfl, rfl, h0, r0⟩ := trodAll_cons hA
  obtain ⟨v1, vs1, d1, ds1, p1, q1, rfl, rfl, rfl, h1, r1⟩ := trodAll_cons r0
  obtain ⟨rfl, rfl, rfl⟩ := trodAll_nil r1
  obtain rfl : args = #[v0, v1] := by cases args; simp_all
  obtain ⟨rfl, rfl⟩ := trodVars_none hV
  obtain ⟨a0, len0, cap0, rfl⟩ := okWide_slice Try.underlying26 (hval 0 26 v0 rfl rfl)
  have k0 := h0
  have lt0 : ∀ x ∈ p0, x.block < W.heap.size := by obtain ⟨m, hm⟩ := k0; exact DataW.trod_lt m _ _ _ hm
  obtain ⟨z0, w0⟩ : ∃ zs, IsRow .u8 W a0 len0 cap0 zs := by
    obtain ⟨fuel, hf⟩ := h0
    rcases open_ints Try.underlying26 Try.underlying5 (by kernel_rfl) hf with ⟨hcs, _⟩ | ⟨x, l, c, zs, hcs, _, hl, hm, hz, _, hcell, hwz⟩
    · simp [Value.cells] at hcs
      obtain ⟨rfl, rfl, rfl⟩ := hcs
      exact ⟨[], .inl ⟨rfl, rfl, rfl, rfl⟩⟩
    · simp [Value.cells] at hcs
      obtain ⟨rfl, rfl, rfl⟩ := hcs
      exact ⟨zs, .inr ⟨_, rfl, hl, hm, by simpa using hz, hcell, hwz⟩⟩
  obtain ⟨a1, rfl, rfl, rfl, w1⟩ := open_string Try.underlying9 (hval 1 9 v1 rfl rfl) h1
  clear hA0 hval0
  refine (walk a0 len0 cap0 z0 a1 W w0 w1).mono fun e W' ⟨he, bel⟩ => ?_
  subst he
  exact ⟨_, rfl, _, _, _, [], _, [], hW', trodAll_mk1 (shut_bool Try.underlying4 _), (trodAll_cons_mk (Below.trod laidOut (by kernel_rfl) (of_decide_eq_true (by kernel_rfl)) k0 bel lt0) (trodAll_cons_mk (shut_string Try.underlying9 w1) trodAll_mk0)), rfl, bel.frame _, fun h => by cases h⟩

theorem over : Rows.fnAppendStringIndependentOfRecordRow.holds Try.pinned (OpenSpec.ofChange Rows.fnAppendStringIndependentOfRecordSpec) :=
  OpenClaim.holds_of_wide 6 Try.f6 rfl rfl rfl rfl rfl rfl rfl ⟨rfl, rfl, rfl, rfl, rfl⟩ rfl rfl rfl rfl rfl (by kernel_rfl) Try.func6 (by kernel_rfl)
    (of_decide_eq_true (by kernel_rfl)) (by unfold Func.isWrapper; first | (rw [if_pos (by decide +kernel)]; kernel_rfl) | (rw [if_neg (by decide +kernel)]; exact ⟨rfl, rfl⟩))
    (fun os started H enc _ => lifted os started H enc)

/-- ████ THE STATEMENT ████ -/
theorem proved : Rows.FnAppendStringIndependentOfRecordSaid := over
#print axioms proved
end Go.Proofs.Qxb6616417a.fnAppendStringIndependentOfRecord
