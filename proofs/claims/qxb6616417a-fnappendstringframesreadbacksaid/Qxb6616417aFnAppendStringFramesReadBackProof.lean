/-
  THE SHELL OF A PROOF OF 'Rows.FnAppendStringFramesReadBackSaid' ('example.com/symbolwalk/symbolwalk/zzlaws_internal_graph_b1.FnAppendStringFramesReadBack'), WRITTEN BY PROGRAM (proof-skeleton.mjs, third state) off the guide's own print for that function. Not trusted: the kernel checks it.
  THE WALK IS MINE; ALL ELSE IS THE GUIDE's OWN WAY (howto/template/XProofs.lean; Derived/Test/ChunkProofs.lean for 'Below') at this function's number and types.
-/
import Derived.Test.Qxb6616417aRows
import Derived.WalkKit
import Derived.ProofKit
import Derived.OpenShut
import Derived.ShutString
import Derived.ChangeOld
import Derived.Below
import Derived.WalkSpells
import Derived.Outline
import Derived.Deep.QuietTactic
import Derived.BigQuiet
import Derived.WalkSmall
import Derived.Test.Qxb6616417aFrames
namespace Go.Proofs.Qxb6616417a.fnAppendStringFramesReadBack
open Go.ChangeShapes Go.WideShapes Go.ChangeAt Go.RowKit
open Go.ChangeMaps (open_string shut_string)
set_option linter.unusedVariables false

theorem own : ownKnob Try.prog.godebug = none := by kernel_rfl
theorem laidOut : laidOutB Try.prog = true := by kernel_rfl

/-- WHAT THE WALK IS TOLD OF A SLICE OF INTEGERS THAT CAME IN: it is nil; or it leads to a row of 'cap' cells, the numbers 'zs' (the first 'len' are its elements, the rest its spare room), each fitting its kind. -/
def IsRow (k : IntKind) (w : World) (a : Option Addr) (len cap : Nat) (zs : List Int) : Prop :=
  (a = none ∧ len = 0 ∧ cap = 0 ∧ zs = []) ∨
  ∃ x, a = some x ∧ len ≤ cap ∧ cap ≤ maxLen ∧ zs.length = cap ∧ (∀ i, i < zs.length → w.cell? (x.add i) = some (.int k (zs.getD i 0))) ∧ ∀ n ∈ zs, (Lit.int k n).wf = true

/-! ### STEP 1: THE WALK: the Go text returns true, AND WRITES NOTHING THAT WAS THERE: 'Below w.heap.size w w'' (Derived/Below.lean: '.refl', '.alloc', '.drew', '.setCell' at a new block, '.trans'). Open each 'IsRow' by 'rcases' AHEAD of 'go_enter'; part every test ahead of the walk. -/

/-- zzBytes: yes where the three lengths add up to at most 1<<20. -/
theorem bytes_yes (a : Option Addr) (n cap : Nat) (s t : ByteArray) (hl : n + s.size + t.size ≤ 1048576) (w : World) :
    Calls Try.prog 11 #[.slice a n cap, .string s, .string t] w fun e w' => e = .returned (.bool true) ∧ w' = w := by
  have h1 : (n : Int) + (s.size : Int) + (t.size : Int) ≤ 1048576 := by omega
  have h4 : (n : Int) + (s.size : Int) ≤ 1048576 := by omega
  have h2 : (n : Int) ≤ 1048576 := by omega
  have h3 : (t.size : Int) ≤ 1048576 := by omega
  have h5 : (s.size : Int) ≤ 1048576 := by omega
  go_enter Try.func11, Try.ntmps11
  go_wp2
  go_ret
  exact ⟨rfl, rfl⟩

theorem bytes_no (a : Option Addr) (n cap : Nat) (s t : ByteArray) (hn : n ≤ maxLen) (hs : s.size ≤ maxLen) (ht : t.size ≤ maxLen) (hl : 1048576 < n + s.size + t.size) (w : World) :
    Calls Try.prog 11 #[.slice a n cap, .string s, .string t] w fun e w' => e = .returned (.bool false) ∧ w' = w := by
  unfold maxLen at hs ht hn
  by_cases h2 : 1048576 < n
  · have h2' : (1048576 : Int) < (n : Int) := by omega
    go_enter Try.func11, Try.ntmps11
    go_wp2
    go_ret
    exact ⟨rfl, rfl⟩
  have h2' : (n : Int) ≤ 1048576 := by omega
  by_cases h3 : 1048576 < s.size
  · have h3' : (1048576 : Int) < (s.size : Int) := by omega
    go_enter Try.func11, Try.ntmps11
    go_wp2
    go_ret
    exact ⟨rfl, rfl⟩
  have h3' : (s.size : Int) ≤ 1048576 := by omega
  by_cases h4 : 1048576 < n + s.size
  · have h4' : (1048576 : Int) < (n : Int) + (s.size : Int) := by omega
    go_enter Try.func11, Try.ntmps11
    go_wp2
    go_ret
    exact ⟨rfl, rfl⟩
  have h4' : (n : Int) + (s.size : Int) ≤ 1048576 := by omega
  by_cases h5 : 1048576 < t.size
  · have h5' : (1048576 : Int) < (t.size : Int) := by omega
    go_enter Try.func11, Try.ntmps11
    go_wp2
    go_ret
    exact ⟨rfl, rfl⟩
  have h5' : (t.size : Int) ≤ 1048576 := by omega
  have h6 : (1048576 : Int) < (n : Int) + (s.size : Int) + (t.size : Int) := by omega
  go_enter Try.func11, Try.ntmps11
  go_wp2
  go_ret
  exact ⟨rfl, rfl⟩

set_option maxRecDepth 40000 in
theorem early (a : Option Addr) (n cap : Nat) (s t : ByteArray) (hn : n ≤ maxLen) (hs : s.size ≤ maxLen) (ht : t.size ≤ maxLen) (hl : 1048576 < n + s.size + t.size) (w : World) :
    Calls Try.prog 5 #[.slice a n cap, .string s, .string t] w fun e w' => e = .returned (.bool true) ∧ Below w.heap.size w w' := by
  go_enter Try.func5, Try.ntmps5
  go_wp2_with (go_at_call 11; refine (bytes_no a n cap s t hn hs ht hl _).mono ?_; rintro e w' ⟨rfl, rfl⟩)
  go_ret
  exact ⟨rfl, Below.refl _ _⟩

set_option maxRecDepth 40000 in
theorem early2 (a : Option Addr) (n cap : Nat) (s t : ByteArray) (hl : n + s.size + t.size ≤ 1048576) (h : 262144 < n ∨ (n ≤ 262144 ∧ 262144 < s.size) ∨ (n ≤ 262144 ∧ s.size ≤ 262144 ∧ 262144 < t.size)) (w : World) :
    Calls Try.prog 5 #[.slice a n cap, .string s, .string t] w fun e w' => e = .returned (.bool true) ∧ Below w.heap.size w w' := by
  rcases h with h | ⟨h, g⟩ | ⟨h, g, k⟩
  · have h' : (262144 : Int) < (n : Int) := by omega
    go_enter Try.func5, Try.ntmps5
    go_wp2_with (go_at_call 11; refine (bytes_yes a n cap s t hl _).mono ?_; rintro e w' ⟨rfl, rfl⟩)
    go_ret
    exact ⟨rfl, Below.refl _ _⟩
  · have h' : (n : Int) ≤ 262144 := by omega
    have g' : (262144 : Int) < (s.size : Int) := by omega
    go_enter Try.func5, Try.ntmps5
    go_wp2_with (go_at_call 11; refine (bytes_yes a n cap s t hl _).mono ?_; rintro e w' ⟨rfl, rfl⟩)
    go_ret
    exact ⟨rfl, Below.refl _ _⟩
  · have h' : (n : Int) ≤ 262144 := by omega
    have g' : (s.size : Int) ≤ 262144 := by omega
    have k' : (262144 : Int) < (t.size : Int) := by omega
    go_enter Try.func5, Try.ntmps5
    go_wp2_with (go_at_call 11; refine (bytes_yes a n cap s t hl _).mono ?_; rintro e w' ⟨rfl, rfl⟩)
    go_ret
    exact ⟨rfl, Below.refl _ _⟩

set_option maxRecDepth 40000 in
set_option maxHeartbeats 4000000 in
theorem main (a0 : Option Addr) (len0 cap0 K K' : Nat) (bs : List UInt8) (s t : ByteArray) (w : World) (hr : Fr.Rec w a0 len0 bs) (hnil : a0 = none → len0 = 0) (hl : len0 ≤ 262144) (hs : s.size ≤ 262144) (ht : t.size ≤ 262144) (hK : (Lib.uvarint s.size).length = K) (hK' : (Lib.uvarint t.size).length = K') :
    Calls Try.prog 5 #[.slice a0 len0 cap0, .string s, .string t] w fun e w' => e = .returned (.bool true) ∧ Below w.heap.size w w' := by
  have hlI : (len0 : Int) ≤ 262144 := by omega
  have hsI : (s.size : Int) ≤ 262144 := by omega
  have htI : (t.size : Int) ≤ 262144 := by omega
  have hK1 : 1 ≤ K := by have := Lib.uvarint_pos s.size; omega
  have hK2 : K ≤ 10 := by have := Lib.uvarint_length64 (x := s.size) (by omega); omega
  have hK1' : 1 ≤ K' := by have := Lib.uvarint_pos t.size; omega
  have hK2' : K' ≤ 10 := by have := Lib.uvarint_length64 (x := t.size) (by omega); omega
  have HK : Hid ((Lib.uvarint s.size).length = K) := hK
  have HK' : Hid ((Lib.uvarint t.size).length = K') := hK'
  have HN : Hid (a0 = none → len0 = 0) := hnil
  have HR : Hid (Fr.Rec w a0 len0 bs) := hr
  clear hK hK' hnil hr
  go_enter Try.func5, Try.ntmps5
  go_wp2_with (go_at_call 11; refine (bytes_yes _ _ _ s t (by omega) _).mono ?_; rintro e wx ⟨rfl, hw⟩; obtain rfl := hw.symm)
  refine (Fr.clone_any _ _ _ bs _ HR.out HN.out (by omega)).mono ?_
  rintro e w1 ⟨v1, rfl, o1, b1⟩
  have O1 : Hid (w1.ownsRow w.heap.size 5 1 v1 len0 (Lib.byteCells bs)) := o1
  clear o1
  go_wp2_with fail
  refine (Fr.append_open w.heap.size len0 K s (by omega) HK.out v1 bs _ O1.out b1.size (by omega)).mono ?_
  rintro e w2 ⟨g1, cap1, rfl, o2, hg1, hg2, r2, b2⟩
  have O2 : Hid (w2.ownsRow w.heap.size 5 1 (.slice (some ⟨g1, 0, none⟩) (len0 + (K + s.size)) cap1) (len0 + (K + s.size)) (Lib.byteCells (bs ++ Fr.frame s))) := o2
  have B2 : Hid (Below w.heap.size w w2) := b1.trans b2
  clear o2 r2 b1 b2 O1 hg1 hg2
  go_wp2_with fail
  refine (Fr.append_open w.heap.size (len0 + (K + s.size)) K' t (by omega) HK'.out _ (bs ++ Fr.frame s) _ O2.out B2.out.size (by omega)).mono ?_
  rintro e W ⟨g, cap, rfl, o3, hg3, hg4, r3, b3⟩
  have hl2 : (bs ++ Fr.frame s ++ Fr.frame t).length = len0 + (K + s.size) + (K' + t.size) := by rw [List.length_append, List.length_append, Fr.frame_length, Fr.frame_length, HK.out, HK'.out, HR.out.1]
  have R3 : Hid (Fr.Row W g (bs ++ Fr.frame s ++ Fr.frame t)) := r3
  have HL : Hid ((bs ++ Fr.frame s ++ Fr.frame t).length = len0 + (K + s.size) + (K' + t.size)) := hl2
  have BW : Hid (Below w.heap.size w W) := B2.out.trans b3
  clear r3 b3 hl2 hg3 hg4 o3 O2 B2
  have hbl : Hid (bs.length = len0) := HR.out.1
  have RD1 : Hid (∀ m, Calls Try.prog 14 #[.slice (some ⟨g, 0, none⟩) (len0 + (K + s.size) + (K' + t.size)) cap, .int .i64 (len0 : Int)] (W.drewN m) fun e w' => e = .returned (.tuple #[.int .u64 (s.size : Int), .int .i64 ((len0 : Int) + (K : Int)), .bool true]) ∧ w' = W.drewN m) := by
    intro m
    have hd : (bs ++ Fr.frame s ++ Fr.frame t).drop len0 = Lib.uvarint s.size ++ (s.data.toList ++ Fr.frame t) := by
      rw [List.append_assoc, List.drop_left' hbl.out, Fr.frame, List.append_assoc]
    have := Fr.read_any g _ cap len0 s.size _ _ (W.drewN m) HL.out (by omega) (by omega) R3.out hd
    rw [HK.out, Int.natCast_add] at this
    exact this
  have RD2 : Hid (∀ m, Calls Try.prog 14 #[.slice (some ⟨g, 0, none⟩) (len0 + (K + s.size) + (K' + t.size)) cap, .int .i64 ((len0 : Int) + (K : Int) + (s.size : Int))] (W.drewN m) fun e w' => e = .returned (.tuple #[.int .u64 (t.size : Int), .int .i64 ((len0 : Int) + (K : Int) + (s.size : Int) + (K' : Int)), .bool true]) ∧ w' = W.drewN m) := by
    intro m
    have hd : (bs ++ Fr.frame s ++ Fr.frame t).drop (len0 + K + s.size) = Lib.uvarint t.size ++ t.data.toList := by
      rw [List.drop_left' (by rw [List.length_append, Fr.frame_length, HK.out, hbl.out]; omega), Fr.frame]
    have := Fr.read_any g _ cap (len0 + K + s.size) t.size _ _ (W.drewN m) HL.out (by omega) (by omega) R3.out hd
    rw [HK'.out, Int.natCast_add, Int.natCast_add, Int.natCast_add] at this
    exact this
  have C1 : Hid (∀ k, k < len0 → W.cell? ⟨g, k, none⟩ = some (.int .u8 ((bs[k]?.getD 0).toNat : Int))) := by
    intro k hk
    have := hbl.out
    rw [R3.out k (by rw [HL.out]; omega), List.append_assoc, List.getElem?_append_left (by omega)]
  have C2 : Hid (∀ k, (h : k < s.size) → W.cell? ⟨g, len0 + K + k, none⟩ = some (.int .u8 (s[k].toNat : Int))) := by
    intro k hk
    have hb := hbl.out
    have e : (bs ++ Fr.frame s ++ Fr.frame t)[len0 + K + k]? = some s[k] := by
      rw [List.append_assoc, List.getElem?_append_right (by omega), Fr.frame, List.append_assoc, List.getElem?_append_right (by rw [HK.out]; omega), HK.out, show len0 + K + k - bs.length - K = k from by omega, List.getElem?_append_left (by simpa using hk), List.getElem?_eq_some_iff]
      exact ⟨by simpa using hk, rfl⟩
    rw [R3.out (len0 + K + k) (by rw [HL.out]; omega), e]
    rfl
  have C3 : Hid (∀ k, (h : k < t.size) → W.cell? ⟨g, len0 + K + s.size + K' + k, none⟩ = some (.int .u8 (t[k].toNat : Int))) := by
    intro k hk
    have hb := hbl.out
    have hlf : (bs ++ Fr.frame s).length = len0 + (K + s.size) := by rw [List.length_append, Fr.frame_length, HK.out, hb]
    have e : (bs ++ Fr.frame s ++ Fr.frame t)[len0 + K + s.size + K' + k]? = some t[k] := by
      rw [List.getElem?_append_right (by omega), hlf, Fr.frame, List.getElem?_append_right (by rw [HK'.out]; omega), HK'.out, show len0 + K + s.size + K' + k - (len0 + (K + s.size)) - K' = k from by omega, List.getElem?_eq_some_iff]
      exact ⟨by simpa using hk, rfl⟩
    rw [R3.out (len0 + K + s.size + K' + k) (by rw [HL.out]; omega), e]
    rfl
  clear R3 HL
  go_wp2
  go_loopw [9] (fun i wr => ∃ k m : Nat, k ≤ len0 ∧ i = .int .i64 k ∧ wr = W.drewN m) (fun i _ => len0 - (intOf i).toNat)
  case atStart => exact ⟨0, 0, Nat.zero_le _, rfl, rfl⟩
  case round =>
    obtain ⟨k, m, hk, rfl, rfl⟩ := hrel
    by_cases hlt : k < len0
    · have hltI : (k : Int) < (len0 : Int) := by omega
      have hidx : (k : Int) < (len0 : Int) + ((K : Int) + (s.size : Int)) + ((K' : Int) + (t.size : Int)) := by omega
      obtain ⟨hbl, h0 | ⟨b, off, ha, hb, hcell⟩⟩ := HR.out
      · omega
      subst ha
      obtain ⟨c, hcc⟩ : ∃ c : Int, ((bs[k]?.getD 0).toNat : Int) = c := ⟨_, rfl⟩
      have hc1 : W.cell? ⟨b, off + k, none⟩ = some (.int .u8 c) := by rw [BW.out.cell (p := ⟨b, off + k, none⟩) hb, hcell k hlt, hcc]
      have hc2 : W.cell? ⟨g, k, none⟩ = some (.int .u8 c) := by rw [C1.out k hlt, hcc]
      clear hcc hcell hbl
      go_wp2_with fail
      go_quiet (fail)
      go_wp2
      go_roundw
      case rel => exact ⟨k + 1, _, by omega, by go_num, rfl⟩
      case measure => simp [intOf]; omega
    · have hltI : ¬ (k : Int) < (len0 : Int) := by omega
      go_wp2_with fail
      refine (RD1.out m).mono ?_
      rintro e wx ⟨rfl, hw⟩
      obtain rfl := hw.symm
      go_wp2_with fail
      refine (Fr.uvlen_any s.size (by omega) _).mono ?_
      rintro e wx ⟨rfl, hw⟩
      obtain rfl := hw.symm
      rw [HK.out]
      have hsub : (len0 : Int) + (K : Int) - (len0 : Int) = (K : Int) := by omega
      have hsub2 : ¬ (len0 : Int) + ((K : Int) + (s.size : Int)) + ((K' : Int) + (t.size : Int)) - ((len0 : Int) + (K : Int)) < (s.size : Int) := by omega
      go_wp2
      clear hsub hsub2 hltI hlt
      go_loopw [14] (fun i wr => ∃ k2 m : Nat, k2 ≤ s.size ∧ i = .int .i64 k2 ∧ wr = W.drewN m) (fun i _ => s.size - (intOf i).toNat)
      case atStart => exact ⟨0, m, Nat.zero_le _, rfl, rfl⟩
      case round =>
        obtain ⟨k2, m, hk2, rfl, rfl⟩ := hrel
        by_cases hlt : k2 < s.size
        · have hltI : (k2 : Int) < (s.size : Int) := by omega
          have hidx : (len0 : Int) + (K : Int) + (k2 : Int) < (len0 : Int) + ((K : Int) + (s.size : Int)) + ((K' : Int) + (t.size : Int)) := by omega
          have hc := C2.out k2 hlt
          go_wp2_with fail
          go_quiet (fail)
          go_wp2
          go_roundw
          case rel => exact ⟨k2 + 1, _, by omega, by go_num, rfl⟩
          case measure => simp [intOf]; omega
        · have hltI : ¬ (k2 : Int) < (s.size : Int) := by omega
          go_wp2_with fail
          refine (RD2.out m).mono ?_
          rintro e wx ⟨rfl, hw⟩
          obtain rfl := hw.symm
          go_wp2_with fail
          refine (Fr.uvlen_any t.size (by omega) _).mono ?_
          rintro e wx ⟨rfl, hw⟩
          obtain rfl := hw.symm
          rw [HK'.out]
          have hsub : (len0 : Int) + (K : Int) + (s.size : Int) + (K' : Int) - ((len0 : Int) + (K : Int) + (s.size : Int)) = (K' : Int) := by omega
          have hsub2 : ¬ (len0 : Int) + ((K : Int) + (s.size : Int)) + ((K' : Int) + (t.size : Int)) - ((len0 : Int) + (K : Int) + (s.size : Int) + (K' : Int)) < (t.size : Int) := by omega
          go_wp2
          clear hsub hsub2 hltI hlt
          go_loopw [18] (fun i wr => ∃ k3 m : Nat, k3 ≤ t.size ∧ i = .int .i64 k3 ∧ wr = W.drewN m) (fun i _ => t.size - (intOf i).toNat)
          case atStart => exact ⟨0, m, Nat.zero_le _, rfl, rfl⟩
          case round =>
            obtain ⟨k3, m, hk3, rfl, rfl⟩ := hrel
            by_cases hlt : k3 < t.size
            · have hltI : (k3 : Int) < (t.size : Int) := by omega
              have hidx : (len0 : Int) + (K : Int) + (s.size : Int) + (K' : Int) + (k3 : Int) < (len0 : Int) + ((K : Int) + (s.size : Int)) + ((K' : Int) + (t.size : Int)) := by omega
              have hc := C3.out k3 hlt
              go_wp2_with fail
              go_quiet (fail)
              go_wp2
              go_roundw
              case rel => exact ⟨k3 + 1, _, by omega, by go_num, rfl⟩
              case measure => simp [intOf]; omega
            · have hltI : ¬ (k3 : Int) < (t.size : Int) := by omega
              have hfin : ((len0 : Int) + (K : Int) + (s.size : Int) + (K' : Int) + (t.size : Int) == (len0 : Int) + ((K : Int) + (s.size : Int)) + ((K' : Int) + (t.size : Int))) = true := by rw [beq_iff_eq]; omega
              go_wp2
              go_ret
              exact ⟨rfl, below_drewN BW.out _⟩

/-- A byte slice that came in, as bytes. -/
theorem rec_of (a0 : Option Addr) (len0 cap0 : Nat) (z0 : List Int) (w : World) (h : IsRow .u8 w a0 len0 cap0 z0) :
    ∃ bs, Fr.Rec w a0 len0 bs ∧ (a0 = none → len0 = 0) ∧ len0 ≤ maxLen := by
  rcases h with ⟨rfl, rfl, rfl, rfl⟩ | ⟨x, rfl, hl, hm, hz, hcell, hwz⟩
  · exact ⟨[], ⟨rfl, .inl rfl⟩, fun _ => rfl, by unfold maxLen; omega⟩
  · refine ⟨(z0.take len0).map (fun z => z.toNat.toUInt8), ⟨by simp; omega, ?_⟩, fun h => (by cases h), by omega⟩
    by_cases h0 : len0 = 0
    · exact .inl h0
    · obtain ⟨b, off, spot⟩ := x
      have hc := hcell 0 (by omega)
      have hspot : spot = none := by simpa [Addr.add] using World.cell?_spot hc
      subst hspot
      refine .inr ⟨b, off, rfl, World.block_lt_of_cell? w _ hc, fun i hi => ?_⟩
      have hci := hcell i (by omega)
      have hz0 : i < z0.length := by omega
      have hb := bounds_u8 (hwz z0[i] (List.getElem_mem hz0))
      have e : ((z0.take len0).map (fun z => z.toNat.toUInt8))[i]? = some (z0[i].toNat.toUInt8) := by
        rw [List.getElem?_map, List.getElem?_take, if_pos hi, List.getElem?_eq_getElem hz0]; rfl
      rw [e, Option.getD_some, Lib.toUInt8_toNat (by omega)]
      have e2 : z0.getD i 0 = z0[i] := by simp [hz0]
      rw [e2] at hci
      rw [Int.toNat_of_nonneg hb.1]
      have hadd : (⟨b, off, none⟩ : Addr).add i = ⟨b, off + i, none⟩ := by unfold Addr.add; split <;> simp_all
      rw [hadd] at hci
      exact hci

theorem walk (a0 : Option Addr) (len0 cap0 : Nat) (z0 : List Int) (a1 : ByteArray) (a2 : ByteArray) (w : World) (w0 : IsRow .u8 w a0 len0 cap0 z0) (w1 : a1.size ≤ maxLen) (w2 : a2.size ≤ maxLen) :
    Calls Try.prog 5 #[.slice a0 len0 cap0, .string a1, .string a2] w fun e w' => e = .returned (.bool true) ∧ Below w.heap.size w w' := by
  obtain ⟨bs, hr, hnil, hm⟩ := rec_of a0 len0 cap0 z0 w w0
  by_cases h1 : 1048576 < len0 + a1.size + a2.size
  · exact early a0 len0 cap0 a1 a2 hm w1 w2 h1 w
  by_cases h2 : 262144 < len0 ∨ (len0 ≤ 262144 ∧ 262144 < a1.size) ∨ (len0 ≤ 262144 ∧ a1.size ≤ 262144 ∧ 262144 < a2.size)
  · exact early2 a0 len0 cap0 a1 a2 (by omega) h2 w
  exact main a0 len0 cap0 _ _ bs a1 a2 w hr hnil (by omega) (by omega) (by omega) rfl rfl

/-! ### THE ROW's STEP: WRITTEN OUT: LEAVE IT -/
set_option maxRecDepth 100000 in
theorem lifted (os : Os) (started : os.Started) (H : Type) (enc : TypeId × Value → H) :
    ReturnsInHanded {} Try.checked os 5 .any (Rows.fnAppendStringFramesReadBackSpec.pre6 enc Try.prog Try.f5 Rows.fnAppendStringFramesReadBackRow.domain false) (Rows.fnAppendStringFramesReadBackSpec.post enc Try.prog Try.f5 false true false false) := by
  refine returnsInHanded_of_change (C := Try.checked) own started (by kernel_rfl) Try.func5
    (ChangeSpec.witness6 (enc := enc) (C := Try.checked) false ⟨#[], #[.slice none 0 0, .string ByteArray.empty, .string ByteArray.empty], []⟩ 8 (by kernel_rfl) (by kernel_rfl) (by kernel_rfl) (by kernel_rfl)) ?_
  intro W base args ds gs before hval0 hW hcnd _
  have hval : ∀ (j : Nat) t v, Try.f5.params[j]? = some t → args[j]? = some v → Value.okWide Try.prog W .any base t v := hval0
  have hW' := hW
  obtain ⟨p, q, hA0, hV, rfl, hfz, hnd⟩ := hW
  have hA : DataW.TrodAll enc Try.prog W 0 (fun _ => true) true Try.f5.params.toList args.toList ds p := hA0
  rw [Try.params5] at hA hval
  obtain ⟨v0, vs0, d0, ds0, p0, q0, hargs, rfl, rfl, h0, r0⟩ := trodAll_cons hA
  obtain ⟨v1, vs1, d1, ds1, p1, q1, rfl, rfl, rfl, h1, r1⟩ := trodAll_cons r0
  obtain ⟨v2, vs2, d2, ds2, p2, q2, rfl, rfl, rfl, h2, r2⟩ := trodAll_cons r1
  obtain ⟨rfl, rfl, rfl⟩ := trodAll_nil r2
  obtain rfl : args = #[v0, v1, v2] := by cases args; simp_all
  obtain ⟨rfl, rfl⟩ := trodVars_none hV
  obtain ⟨a0, len0, cap0, rfl⟩ := okWide_slice Try.underlying26 (hval 0 26 v0 rfl rfl)
  have k0 := h0
  have lt0 : ∀ x ∈ p0, x.block < W.heap.size := by obtain ⟨m, hm⟩ := k0; exact DataW.trod_lt m _ _ _ hm
  obtain ⟨z0, w0⟩ : ∃ zs, IsRow .u8 W a0 len0 cap0 zs := by
    obtain ⟨fuel, hf⟩ := h0
    rcases open_ints Try.underlying26 Try.underlying5 (by kernel_rfl) hf with ⟨hcs, _⟩ | ⟨x, l, c, zs, hcs, _, hl, hm, hz, _, hcell, hwz⟩
    · simp [Value.cells] at hcs
      obtain ⟨rfl, rfl, rfl⟩ := hcs
      exact ⟨[], .inl ⟨rfl, rfl, rfl, rfl⟩⟩
    · simp [Value.cells] at hcs
      obtain ⟨rfl, rfl, rfl⟩ := hcs
      exact ⟨zs, .inr ⟨_, rfl, hl, hm, by simpa using hz, hcell, hwz⟩⟩
  obtain ⟨a1, rfl, rfl, rfl, w1⟩ := open_string Try.underlying9 (hval 1 9 v1 rfl rfl) h1
  obtain ⟨a2, rfl, rfl, rfl, w2⟩ := open_string Try.underlying9 (hval 2 9 v2 rfl rfl) h2
  clear hA0 hval0
  refine (walk a0 len0 cap0 z0 a1 a2 W w0 w1 w2).mono fun e W' ⟨he, bel⟩ => ?_
  subst he
  exact ⟨_, rfl, _, _, _, [], _, [], hW', trodAll_mk1 (shut_bool Try.underlying4 _), (trodAll_cons_mk (Below.trod laidOut (by kernel_rfl) (of_decide_eq_true (by kernel_rfl)) k0 bel lt0) (trodAll_cons_mk (shut_string Try.underlying9 w1) (trodAll_cons_mk (shut_string Try.underlying9 w2) trodAll_mk0))), rfl, bel.frame _, fun h => by cases h⟩

theorem over : Rows.fnAppendStringFramesReadBackRow.holds Try.pinned (OpenSpec.ofChange Rows.fnAppendStringFramesReadBackSpec) :=
  OpenClaim.holds_of_wide 5 Try.f5 rfl rfl rfl rfl rfl rfl rfl ⟨rfl, rfl, rfl, rfl, rfl⟩ rfl rfl rfl rfl rfl (by kernel_rfl) Try.func5 (by kernel_rfl)
    (of_decide_eq_true (by kernel_rfl)) (by unfold Func.isWrapper; first | (rw [if_pos (by decide +kernel)]; kernel_rfl) | (rw [if_neg (by decide +kernel)]; exact ⟨rfl, rfl⟩))
    (fun os started H enc _ => lifted os started H enc)

/-- ████ THE STATEMENT ████ -/
theorem proved : Rows.FnAppendStringFramesReadBackSaid := over
#print axioms proved
end Go.Proofs.Qxb6616417a.fnAppendStringFramesReadBack
