/-
  The law FnRegistryLockThenUnlockReleasesAll: its own walk, at seat b6616406a's dump.
-/
import Derived.Test.Qxb6616406aSeen
namespace Go.Proofs.Qxb6616406a.Rg
open Go.RowKit Go.Maps
set_option linter.unusedVariables false

theorem look_zip_some : ∀ (xs : List ByteArray) (bs : List Nat) (k : Nat) (x : ByteArray) (b : Nat), xs.Nodup → xs[k]? = some x → bs[k]? = some b → look (xs.zip bs) x = some b
  | [], _, _, _, _, _, h1, _ => by simp at h1
  | _ :: _, [], _, _, _, _, _, h2 => by simp at h2
  | x' :: xs, b' :: bs, 0, x, b, hn, h1, h2 => by simp at h1 h2; subst h1; subst h2; simp [look]
  | x' :: xs, b' :: bs, k + 1, x, b, hn, h1, h2 => by
    simp only [List.getElem?_cons_succ] at h1 h2
    have hne : x' ≠ x := by
      rintro rfl
      exact (List.nodup_cons.1 hn).1 (List.mem_of_getElem? h1)
    rw [List.zip_cons_cons, look, if_neg hne]
    exact look_zip_some xs bs k x b (List.nodup_cons.1 hn).2 h1 h2

theorem mem_zip {xs : List ByteArray} {bs : List Nat} {k : Nat} {x : ByteArray} {b : Nat} (h1 : xs[k]? = some x) (h2 : bs[k]? = some b) : (x, b) ∈ xs.zip bs := by
  refine List.mem_of_getElem? (i := k) ?_
  rw [List.getElem?_zip_eq_some]
  exact ⟨h1, h2⟩

/-- The state of the loop that looks for a key that comes twice. -/
structure SInv (w : World) (keys : List ByteArray) (k : Nat) (wr : World) : Prop where
  se : SeenIs wr w.heap.size (keys.take k)
  nd : (keys.take k).Nodup
  bl : Below w.heap.size w wr

set_option maxRecDepth 100000 in
set_option maxHeartbeats 8000000 in
theorem law (a : Option Addr) (cap : Nat) (keys : List ByteArray) (w : World) (hlm : keys.length ≤ maxLen) (hpm : ∀ p ∈ keys, p.size ≤ maxLen) (hs : Lies w a keys.length keys) (h0 : a = none → keys.length = 0 ∧ cap = 0) :
    Calls Try.prog 5 #[.slice a keys.length cap] w fun e w' => e = .returned (.bool true) ∧ Below w.heap.size w w' := by
  have HL : Hid (Lies w a keys.length keys) := hs
  have HPM : Hid (∀ p ∈ keys, p.size ≤ maxLen) := hpm
  have HLM : Hid (keys.length ≤ maxLen) := hlm
  have H0 : Hid (a = none → keys.length = 0 ∧ cap = 0) := h0
  clear hs hpm hlm h0
  go_enter Try.func5, Try.ntmps5
  go_wp2_with fail
  refine (bytes_any a keys.length cap keys _ HLM.out HPM.out HL.out).mono ?_
  rintro e wx ⟨b, rfl, hw, hb⟩
  obtain rfl := hw.symm
  cases b with
  | false =>
    clear hb
    go_wp2
    go_ret
    exact ⟨rfl, Below.refl _ _⟩
  | true =>
    obtain ⟨hl2, hp2⟩ := hb rfl
    have HP2 : Hid (∀ p ∈ keys, p.size ≤ 1048576) := hp2
    clear hb hp2
    have hl3 : (keys.length : Int) ≤ 1048576 := by omega
    by_cases h16 : 65536 < keys.length
    · have h16' : (65536 : Int) < (keys.length : Int) := by omega
      go_wp2
      go_ret
      exact ⟨rfl, Below.refl _ _⟩
    have h16' : (keys.length : Int) ≤ 65536 := by omega
    go_wp2
    go_loop [3, 4] (fun n i => ∃ (k : Nat) (N : Int), k ≤ keys.length ∧ 0 ≤ N ∧ N ≤ 1048576 ∧ i = .int .i64 k ∧ n = .int .i64 N) (fun _ i => keys.length - (intOf i).toNat)
    case atStart => exact ⟨0, 0, Nat.zero_le _, by omega, by omega, rfl, rfl⟩
    case round =>
      obtain ⟨k, N, hk, hN0, hN1, rfl, rfl⟩ := hrel
      by_cases hlt : k < keys.length
      · have hltI : (k : Int) < (keys.length : Int) := by omega
        obtain ⟨b, off, ha, hb, hc⟩ : ∃ b off, a = some ⟨b, off, none⟩ ∧ b < w.heap.size ∧ ∀ j, j < keys.length → w.cell? ⟨b, off + j, none⟩ = some (.string (keys[j]?.getD ⟨#[]⟩)) := by
          rcases HL.out.2 with h0 | h
          · omega
          · exact h
        subst ha
        have hck := hc k hlt
        obtain ⟨p, hp⟩ : ∃ p, keys[k] = p := ⟨_, rfl⟩
        have hpm : p.size ≤ 1048576 := HP2.out p (by rw [← hp]; exact List.getElem_mem hlt)
        have hpI : (p.size : Int) ≤ 1048576 := by omega
        rw [List.getElem?_eq_getElem hlt, Option.getD_some, hp] at hck
        clear hc hp
        by_cases hnb : 1048576 < N + (16 + (p.size : Int))
        · go_wp2
          go_ret
          exact ⟨rfl, Below.refl _ _⟩
        · go_wp2
          go_round
          case rel => exact ⟨k + 1, N + (16 + (p.size : Int)), by omega, by omega, by omega, by go_num, rfl⟩
          case measure => simp [intOf]; omega
      · have hltI : ¬ (k : Int) < (keys.length : Int) := by omega
        have hmk := fun w => makeSeen keys.length w
        have S0 : Hid (SInv w keys 0 (w.alloc (.map #[] 0))) := ⟨SeenIs.made w, by simp, (Below.refl _ _).alloc (Nat.le_refl _) _⟩
        clear hlt
        go_wp2
        clear hmk
        go_loopw [6] (fun i wr => ∃ k : Nat, k ≤ keys.length ∧ i = .int .i64 k ∧ Hid (SInv w keys k wr)) (fun i _ => keys.length - (intOf i).toNat)
        case atStart => exact ⟨0, Nat.zero_le _, rfl, S0⟩
        case round =>
          clear S0 hltI hk
          obtain ⟨k2, hk2, rfl, S⟩ := hrel
          by_cases hlt : k2 < keys.length
          · have hltI : (k2 : Int) < (keys.length : Int) := by omega
            obtain ⟨b, off, ha, hb, hc⟩ : ∃ b off, a = some ⟨b, off, none⟩ ∧ b < wr.heap.size ∧ ∀ j, j < keys.length → wr.cell? ⟨b, off + j, none⟩ = some (.string (keys[j]?.getD ⟨#[]⟩)) := by
              rcases (HL.out.below S.out.bl).2 with h0 | h
              · omega
              · exact h
            subst ha
            have hck := hc k2 hlt
            obtain ⟨p, hp⟩ : ∃ p, keys[k2] = p := ⟨_, rfl⟩
            have hpm : p.size ≤ maxLen := by have := HP2.out p (by rw [← hp]; exact List.getElem_mem hlt); unfold maxLen; omega
            have HP : Hid (keys.take (k2 + 1) = keys.take k2 ++ [p]) := by show _ = _; rw [List.take_succ_eq_append_getElem hlt, hp]
            rw [List.getElem?_eq_getElem hlt, Option.getD_some, hp] at hck
            clear hc hp
            have hlk := S.out.se.look hpm
            cases hin : inl (keys.take k2) p with
            | true =>
              rw [hin] at hlk
              go_wp2
              go_ret
              exact ⟨rfl, S.out.bl⟩
            | false =>
              rw [hin] at hlk
              have hni : p ∉ keys.take k2 := fun h => by have := (inl_iff _ _).2 h; rw [hin] at this; cases this
              obtain ⟨w', hst, hse, ht⟩ := S.out.se.store hpm hni (by rw [List.length_take]; omega)
              have S2 : Hid (SInv w keys (k2 + 1) w') := ⟨by rw [HP.out]; exact hse, by
                rw [HP.out, List.nodup_append]
                exact ⟨S.out.nd, by simp, fun x hx y hy e => by rw [List.mem_singleton.1 hy] at e; rw [e] at hx; exact hni hx⟩, S.out.bl.grown ht.grown (Nat.le_trans (Nat.le_refl _) S.out.bl.size) (fun k e => by cases e; exact Nat.le_refl _)⟩
              clear hse ht hni hin
              go_wp2
              go_roundw
              case rel => exact ⟨k2 + 1, by omega, by go_num, S2⟩
              case measure => simp [intOf]; omega
          · have hltI : ¬ (k2 : Int) < (keys.length : Int) := by omega
            obtain rfl : k2 = keys.length := by omega
            have hnd : keys.Nodup := by have := S.out.nd; rwa [List.take_of_length_le (Nat.le_refl _)] at this
            have B1 : Hid (Below w.heap.size w wr) := S.out.bl
            have L1 : Hid (Lies wr a keys.length keys) := HL.out.below S.out.bl
            have HND : Hid keys.Nodup := hnd
            clear hnd S
            go_wp2_with fail
            refine (clone_any a keys.length cap keys _ L1.out hl2 H0.out).mono ?_
            rintro e w2 ⟨a', c', rfl, bl2, kr2⟩
            have B2 : Hid (Below w.heap.size w w2) := B1.out.trans (bl2.mono B1.out.size)
            have R2 : Hid (KR w2 a' keys) := kr2
            clear bl2 kr2 hlt hk2 B1 L1 HL H0 HPM HLM
            have HKS : Hid (∀ s ∈ keys, s.size ≤ maxLen) := fun s hs => by have := HP2.out s hs; unfold maxLen; omega
            rcases Nat.lt_or_ge 64 keys.length with h64 | h64
            · have h64I : (64 : Int) < (keys.length : Int) := by omega
              go_wp2_with fail
              refine (newReg w2).mono ?_
              rintro e w3 ⟨rfl, hw3⟩
              have ST3 : Hid (St w3 w.heap.size 0 w2.heap.size none (.slice none 0 0) [] []) := by rw [hw3]; exact newReg_st w2 _ _ B2.out.size
              have B3 : Hid (Below w.heap.size w w3) := by rw [hw3]; exact B2.out.alloc B2.out.size _
              have R3 : Hid (KR w3 a' keys) := R2.out.of (fun kb hlt _ _ => by rw [hw3]; exact Below.heap_alloc _ _ _ hlt)
              clear hw3
              go_wp2_with fail
              refine (lockRelease w.heap.size 0 w2.heap.size c' keys a' w3 ST3.out B3.out.size HND.out HKS.out hl2 R3.out).mono ?_
              rintro e w4 ⟨⟨v4, rfl⟩, F4, mref, fv, free, X4⟩
              have HX4 : Hid _ := X4
              have B4 : Hid (Below w.heap.size w w4) := B3.out.trans X4.bl
              have hfi : (free.length : Int) = 64 := by have := X4.fl; omega
              have HFI : Hid (free.length ≤ keys.length) := by show _ ≤ _; have := X4.fl; omega
              clear X4 R3 ST3 R2 B2
              go_wp2_with fail
              refine (heldKeys HX4.out.st).mono ?_
              rintro e w5 ⟨rfl, rfl⟩
              simp only [List.length_nil, Int.natCast_zero]
              go_wp2_with fail
              refine (freeLocks HX4.out.st).mono ?_
              rintro e w5 ⟨he, rfl⟩
              rw [hfi] at he
              subst he
              clear hfi
              go_wp2
              go_loopw [9] (fun i wr => ∃ k : Nat, k ≤ keys.length ∧ i = .int .i64 k ∧ wr = w5) (fun i _ => keys.length - (intOf i).toNat)
              case atStart => exact ⟨0, Nat.zero_le _, rfl, rfl⟩
              case round =>
                obtain ⟨k3, hk3, rfl, rfl⟩ := hrel
                by_cases hlt : k3 < keys.length
                · have hltI : (k3 : Int) < (keys.length : Int) := by omega
                  obtain ⟨kb, ha, hrow⟩ : ∃ kb, a' = some ⟨kb, 0, none⟩ ∧ wr.rowIs kb 9 keys.length (fun j => .string (keys[j]?.getD ⟨#[]⟩)) := by
                    rcases HX4.out.kr with h | h
                    · rw [h] at hlt; simp at hlt
                    · exact h
                  have hck := hrow.cell hlt
                  obtain ⟨p, hp⟩ : ∃ p, keys[k3]?.getD ⟨#[]⟩ = p := ⟨_, rfl⟩
                  rw [hp] at hck
                  have hpm : p.size ≤ maxLen := HKS.out p (by rw [← hp, List.getElem?_eq_getElem hlt, Option.getD_some]; exact List.getElem_mem hlt)
                  have hne : mref ≠ none := HX4.out.ne (fun h => by rw [h] at hlt; simp at hlt)
                  subst ha
                  clear hrow hp
                  go_wp2_with fail
                  refine (keyUsers0 HX4.out.st hne p hpm rfl).mono ?_
                  rintro e w6 ⟨rfl, rfl⟩
                  go_wp2
                  go_roundw
                  case rel => exact ⟨k3 + 1, by omega, by go_num, by trivial⟩
                  case measure => simp [intOf]; omega
                · have hltI : ¬ (k3 : Int) < (keys.length : Int) := by omega
                  clear hlt
                  go_wp2_with fail
                  refine (lockKeep w.heap.size F4 w2.heap.size c' mref fv free keys a' wr HX4.out.st B4.out.size HND.out HKS.out hl2 HX4.out.kr).mono ?_
                  rintro e w7 ⟨⟨v7, rfl⟩, ks, mref7, fv7, free7, hf7, X7⟩
                  have HX7 : Hid _ := X7
                  have B7 : Hid (Below w.heap.size w w7) := B4.out.trans X7.tn
                  have hz7 : ((keys.zip ks).length : Int) = (keys.length : Int) := by rw [List.length_zip, X7.len, Nat.min_self]
                  have hf0 : (free7.length : Int) = 0 := by have := HFI.out; omega
                  clear X7 hf7
                  go_wp2_with fail
                  refine (heldKeys HX7.out.st).mono ?_
                  rintro e w8 ⟨he, rfl⟩
                  rw [hz7] at he
                  subst he
                  clear hz7
                  go_wp2_with fail
                  refine (freeLocks HX7.out.st).mono ?_
                  rintro e w8 ⟨he, rfl⟩
                  rw [hf0] at he
                  subst he
                  clear hf0
                  go_wp2
                  go_loopw [10] (fun i wr => ∃ k : Nat, k ≤ keys.length ∧ i = .int .i64 k ∧ wr = w8) (fun i _ => keys.length - (intOf i).toNat)
                  case atStart => exact ⟨0, Nat.zero_le _, rfl, rfl⟩
                  case round =>
                    clear hltI hk3
                    obtain ⟨k4, hk4, rfl, rfl⟩ := hrel
                    by_cases hlt : k4 < keys.length
                    · have hltI : (k4 : Int) < (keys.length : Int) := by omega
                      obtain ⟨kb, ha, hrow⟩ : ∃ kb, a' = some ⟨kb, 0, none⟩ ∧ wr.rowIs kb 9 keys.length (fun j => .string (keys[j]?.getD ⟨#[]⟩)) := by
                        rcases HX7.out.kr with h | h
                        · rw [h] at hlt; simp at hlt
                        · exact h
                      have hck := hrow.cell hlt
                      obtain ⟨p, hp⟩ : ∃ p, keys[k4]? = some p := ⟨_, List.getElem?_eq_getElem hlt⟩
                      obtain ⟨q, hq⟩ : ∃ q, ks[k4]? = some q := ⟨_, List.getElem?_eq_getElem (by rw [HX7.out.len]; exact hlt)⟩
                      rw [hp, Option.getD_some] at hck
                      have hpm : p.size ≤ maxLen := HKS.out p (List.mem_of_getElem? hp)
                      have HLK : Hid (look (keys.zip ks) p = some q) := look_zip_some keys ks k4 p q HND.out hp hq
                      have HKL : Hid (KL wr q 1 1) := (HX7.out.st.hk (p, q) (mem_zip hp hq)).1
                      subst ha
                      clear hrow hp hq
                      go_wp2_with fail
                      refine (keyUsers1 HX7.out.st p hpm HLK.out HKL.out).mono ?_
                      rintro e w9 ⟨rfl, rfl⟩
                      go_wp2
                      go_roundw
                      case rel => exact ⟨k4 + 1, by omega, by go_num, by trivial⟩
                      case measure => simp [intOf]; omega
                    · have hltI : ¬ (k4 : Int) < (keys.length : Int) := by omega
                      go_wp2
                      go_ret
                      exact ⟨rfl, B7.out⟩
            · have h64I : (keys.length : Int) ≤ 64 := by omega
              go_wp2_with fail
              refine (newReg w2).mono ?_
              rintro e w3 ⟨rfl, hw3⟩
              have ST3 : Hid (St w3 w.heap.size 0 w2.heap.size none (.slice none 0 0) [] []) := by rw [hw3]; exact newReg_st w2 _ _ B2.out.size
              have B3 : Hid (Below w.heap.size w w3) := by rw [hw3]; exact B2.out.alloc B2.out.size _
              have R3 : Hid (KR w3 a' keys) := R2.out.of (fun kb hlt _ _ => by rw [hw3]; exact Below.heap_alloc _ _ _ hlt)
              clear hw3
              go_wp2_with fail
              refine (lockRelease w.heap.size 0 w2.heap.size c' keys a' w3 ST3.out B3.out.size HND.out HKS.out hl2 R3.out).mono ?_
              rintro e w4 ⟨⟨v4, rfl⟩, F4, mref, fv, free, X4⟩
              have HX4 : Hid _ := X4
              have B4 : Hid (Below w.heap.size w w4) := B3.out.trans X4.bl
              have hfi : (free.length : Int) = (keys.length : Int) := by have := X4.fl; omega
              have HFI : Hid (free.length ≤ keys.length) := by show _ ≤ _; have := X4.fl; omega
              clear X4 R3 ST3 R2 B2
              go_wp2_with fail
              refine (heldKeys HX4.out.st).mono ?_
              rintro e w5 ⟨rfl, rfl⟩
              simp only [List.length_nil, Int.natCast_zero]
              go_wp2_with fail
              refine (freeLocks HX4.out.st).mono ?_
              rintro e w5 ⟨he, rfl⟩
              rw [hfi] at he
              subst he
              clear hfi
              go_wp2
              go_loopw [9] (fun i wr => ∃ k : Nat, k ≤ keys.length ∧ i = .int .i64 k ∧ wr = w5) (fun i _ => keys.length - (intOf i).toNat)
              case atStart => exact ⟨0, Nat.zero_le _, rfl, rfl⟩
              case round =>
                obtain ⟨k3, hk3, rfl, rfl⟩ := hrel
                by_cases hlt : k3 < keys.length
                · have hltI : (k3 : Int) < (keys.length : Int) := by omega
                  obtain ⟨kb, ha, hrow⟩ : ∃ kb, a' = some ⟨kb, 0, none⟩ ∧ wr.rowIs kb 9 keys.length (fun j => .string (keys[j]?.getD ⟨#[]⟩)) := by
                    rcases HX4.out.kr with h | h
                    · rw [h] at hlt; simp at hlt
                    · exact h
                  have hck := hrow.cell hlt
                  obtain ⟨p, hp⟩ : ∃ p, keys[k3]?.getD ⟨#[]⟩ = p := ⟨_, rfl⟩
                  rw [hp] at hck
                  have hpm : p.size ≤ maxLen := HKS.out p (by rw [← hp, List.getElem?_eq_getElem hlt, Option.getD_some]; exact List.getElem_mem hlt)
                  have hne : mref ≠ none := HX4.out.ne (fun h => by rw [h] at hlt; simp at hlt)
                  subst ha
                  clear hrow hp
                  go_wp2_with fail
                  refine (keyUsers0 HX4.out.st hne p hpm rfl).mono ?_
                  rintro e w6 ⟨rfl, rfl⟩
                  go_wp2
                  go_roundw
                  case rel => exact ⟨k3 + 1, by omega, by go_num, by trivial⟩
                  case measure => simp [intOf]; omega
                · have hltI : ¬ (k3 : Int) < (keys.length : Int) := by omega
                  clear hlt
                  go_wp2_with fail
                  refine (lockKeep w.heap.size F4 w2.heap.size c' mref fv free keys a' wr HX4.out.st B4.out.size HND.out HKS.out hl2 HX4.out.kr).mono ?_
                  rintro e w7 ⟨⟨v7, rfl⟩, ks, mref7, fv7, free7, hf7, X7⟩
                  have HX7 : Hid _ := X7
                  have B7 : Hid (Below w.heap.size w w7) := B4.out.trans X7.tn
                  have hz7 : ((keys.zip ks).length : Int) = (keys.length : Int) := by rw [List.length_zip, X7.len, Nat.min_self]
                  have hf0 : (free7.length : Int) = 0 := by have := HFI.out; omega
                  clear X7 hf7
                  go_wp2_with fail
                  refine (heldKeys HX7.out.st).mono ?_
                  rintro e w8 ⟨he, rfl⟩
                  rw [hz7] at he
                  subst he
                  clear hz7
                  go_wp2_with fail
                  refine (freeLocks HX7.out.st).mono ?_
                  rintro e w8 ⟨he, rfl⟩
                  rw [hf0] at he
                  subst he
                  clear hf0
                  go_wp2
                  go_loopw [10] (fun i wr => ∃ k : Nat, k ≤ keys.length ∧ i = .int .i64 k ∧ wr = w8) (fun i _ => keys.length - (intOf i).toNat)
                  case atStart => exact ⟨0, Nat.zero_le _, rfl, rfl⟩
                  case round =>
                    clear hltI hk3
                    obtain ⟨k4, hk4, rfl, rfl⟩ := hrel
                    by_cases hlt : k4 < keys.length
                    · have hltI : (k4 : Int) < (keys.length : Int) := by omega
                      obtain ⟨kb, ha, hrow⟩ : ∃ kb, a' = some ⟨kb, 0, none⟩ ∧ wr.rowIs kb 9 keys.length (fun j => .string (keys[j]?.getD ⟨#[]⟩)) := by
                        rcases HX7.out.kr with h | h
                        · rw [h] at hlt; simp at hlt
                        · exact h
                      have hck := hrow.cell hlt
                      obtain ⟨p, hp⟩ : ∃ p, keys[k4]? = some p := ⟨_, List.getElem?_eq_getElem hlt⟩
                      obtain ⟨q, hq⟩ : ∃ q, ks[k4]? = some q := ⟨_, List.getElem?_eq_getElem (by rw [HX7.out.len]; exact hlt)⟩
                      rw [hp, Option.getD_some] at hck
                      have hpm : p.size ≤ maxLen := HKS.out p (List.mem_of_getElem? hp)
                      have HLK : Hid (look (keys.zip ks) p = some q) := look_zip_some keys ks k4 p q HND.out hp hq
                      have HKL : Hid (KL wr q 1 1) := (HX7.out.st.hk (p, q) (mem_zip hp hq)).1
                      subst ha
                      clear hrow hp hq
                      go_wp2_with fail
                      refine (keyUsers1 HX7.out.st p hpm HLK.out HKL.out).mono ?_
                      rintro e w9 ⟨rfl, rfl⟩
                      go_wp2
                      go_roundw
                      case rel => exact ⟨k4 + 1, by omega, by go_num, by trivial⟩
                      case measure => simp [intOf]; omega
                    · have hltI : ¬ (k4 : Int) < (keys.length : Int) := by omega
                      go_wp2
                      go_ret
                      exact ⟨rfl, B7.out⟩
end Go.Proofs.Qxb6616406a.Rg
