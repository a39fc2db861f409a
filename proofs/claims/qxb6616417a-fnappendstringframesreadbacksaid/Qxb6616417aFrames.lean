/-
  graph.AppendString, AppendUint and the law's helpers (zzCloneBytes, zzUvarintLen, zzReadUvarint) at seat b6616417a's dump.
-/
import Derived.Test.Qxb6616417aRows
import Derived.Test.Qxb6616417aShelf
import Derived.WalkKit
import Derived.ProofKit
import Derived.WalkSpells
import Derived.Deep.OwnRows
import Derived.Lib.AppendStr
import Derived.Lib.VarintBits
import Derived.Handy
import Derived.Outline
namespace Go.Proofs.Qxb6616417a.Fr
open Go.RowKit
set_option linter.unusedVariables false

theorem infoE : (Try.prog.info? 5).map (fun i => (i.zero, i.size, i.bytes)) = some (some (.int .u8 0), 1, 1) := by kernel_rfl

/-- The bytes of a string, as cells. -/
theorem strCells_eq (s : ByteArray) : Lib.strCells s = Lib.byteCells s.data.toList := rfl

theorem uint_any (B n k : Nat) (hk : k ≤ 1048576) (sv : Value) (xs : List Value) (w : World) (hown : w.ownsRow B 5 1 sv n xs) (hBw : B ≤ w.heap.size) (hn : n ≤ 8388608) :
    Calls Try.prog 18 #[sv, .int .i64 k] w fun e w' => ∃ v', e = .returned v' ∧ w'.ownsRow B 5 1 v' (n + (Lib.uvarint k).length) (xs ++ Lib.byteCells (Lib.uvarint k)) ∧ Below B w w' := by
  have hk1 : (k : Int) ≤ 1048576 := by omega
  go_enter Try.func18, Try.ntmps18
  go_wp2_with fail
  refine (Try.binary_AppendUvarint B n k (by omega) sv xs _ hown hBw (by omega)).mono ?_
  rintro e w' ⟨v', rfl, h1, h2⟩
  go_wp2
  go_ret
  exact ⟨v', rfl, h1, h2⟩

/-- What AppendString lays behind the record: the length as a varint, then the bytes. -/
def frame (s : ByteArray) : List UInt8 := Lib.uvarint s.size ++ s.data.toList

theorem byteCells_append (a b : List UInt8) : Lib.byteCells (a ++ b) = Lib.byteCells a ++ Lib.byteCells b := by simp [Lib.byteCells]

theorem frame_length (s : ByteArray) : (frame s).length = (Lib.uvarint s.size).length + s.size := by simp [frame]

theorem append_any (B n : Nat) (s : ByteArray) (hs : s.size ≤ 1048576) (sv : Value) (bs : List UInt8) (w : World) (hown : w.ownsRow B 5 1 sv n (Lib.byteCells bs)) (hBw : B ≤ w.heap.size) (hn : n ≤ 8388608) :
    Calls Try.prog 13 #[sv, .string s] w fun e w' => ∃ v', e = .returned v' ∧ w'.ownsRow B 5 1 v' (n + (frame s).length) (Lib.byteCells (bs ++ frame s)) ∧ Below B w w' := by
  obtain ⟨i0, hi, hz0, hz1, hz2⟩ := info_parts infoE
  have hlen := Lib.uvarint_length64 (x := s.size) (by omega)
  go_enter Try.func13, Try.ntmps13
  go_wp2_with fail
  refine (uint_any B n s.size hs sv _ _ hown hBw hn).mono ?_
  rintro e w1 ⟨v1, rfl, h1, b1⟩
  go_wp2_with (at_builtin; refine Lib.wpList_append_own_string _ rfl _ _ 26 9 rfl B 5 i0 Try.underlying26 Try.underlying9 hi hz0 hz1 hz2 _ _ _ rfl h1 s rfl ?c3 ?c4 ?c5 ?_)
  case c3 => unfold maxLen; omega
  case c4 => omega
  case c5 => have := b1.size; omega
  intro v2 w2 h2 g2 _
  go_wp2
  go_ret
  refine ⟨v2, rfl, ?_, b1.grown g2 (by have := b1.size; omega) (fun k hk => (h1.lt k hk).1)⟩
  rw [frame_length, byteCells_append, frame, byteCells_append, ← Nat.add_assoc]
  have h3 := h2
  try rw [List.append_assoc] at h3
  exact h3

set_option maxRecDepth 20000 in
theorem uvlen_any (v : Nat) (hv : v ≤ 1048576) (w : World) :
    Calls Try.prog 15 #[.int .u64 v] w fun e w' => e = .returned (.int .i64 (Lib.uvarint v).length) ∧ w' = w := by
  have hlen := Lib.uvarint_length64 (x := v) (by omega)
  go_enter Try.func15, Try.ntmps15
  go_wp2
  go_loop [0, 3] (fun x k => ∃ y j : Nat, x = .int .u64 y ∧ k = .int .i64 j ∧ y ≤ v ∧ Hid ((Lib.uvarint v).length + 1 = j + (Lib.uvarint y).length)) (fun x _ => (intOf x).toNat)
  case atStart => exact ⟨v, 1, rfl, rfl, Nat.le_refl _, by show _ = _; omega⟩
  case round =>
    obtain ⟨y, j, rfl, rfl, hy, hj⟩ := hrel
    have hyp := Lib.uvarint_pos y
    have hj' : j ≤ 10 := by have := hj.out; omega
    by_cases h : 128 ≤ y
    · have hb : Hid ((Lib.uvarint y).length = (Lib.uvarint (y / 128)).length + 1) := by show _ = _; rw [Lib.uvarint_big h]; simp
      go_wp2
      go_round
      case rel => exact ⟨y / 128, j + 1, by go_num, by go_num, by omega, by show _ = _; have := hj.out; have := hb.out; omega⟩
      case measure => simp [intOf]; omega
    · have hb : Hid ((Lib.uvarint y).length = 1) := by show _ = _; rw [Lib.uvarint_small (by omega)]; rfl
      go_wp2
      go_ret
      have e : (j : Int) = (Lib.uvarint v).length := by have := hj.out; have := hb.out; omega
      exact ⟨by rw [← e]; rfl, rfl⟩

/-- A record that came in: its length and bytes; where there is one at all, an address below B. -/
def Rec (w : World) (a : Option Addr) (len : Nat) (bs : List UInt8) : Prop :=
  bs.length = len ∧ (len = 0 ∨ ∃ b off, a = some ⟨b, off, none⟩ ∧ b < w.heap.size ∧ ∀ i, i < len → w.cell? ⟨b, off + i, none⟩ = some (.int .u8 ((bs[i]?.getD 0).toNat : Int)))

theorem own_of_rowIs {w : World} {g len : Nat} {bs : List UInt8} (B : Nat) (hB : B ≤ g) (hl : bs.length = len) (hm : len ≤ maxLen) {f : Nat → Value} (h : w.rowIs g 5 len f) (hf : ∀ i, i < len → f i = .int .u8 ((bs[i]?.getD 0).toNat : Int)) :
    w.ownsRow B 5 1 (.slice (some ⟨g, 0, none⟩) len len) len (Lib.byteCells bs) := by
  obtain ⟨c, hc, hs, hi⟩ := h
  refine ⟨by rw [Lib.byteCells_length]; omega, .inr ⟨g, len, c, rfl, hB, hc, Nat.le_refl _, hm, by omega, ?_⟩⟩
  apply List.ext_getElem?
  intro i
  rw [List.take_of_length_le (by simp; omega)]
  by_cases hlt : i < len
  · have := hi i hlt
    rw [Array.getElem?_toList, this, hf i hlt, Lib.byteCells, List.getElem?_map]
    have hb : i < bs.length := by omega
    simp [hb]
  · rw [List.getElem?_eq_none (by simp; omega), List.getElem?_eq_none (by rw [Lib.byteCells_length]; omega)]

theorem clone_nil (cap : Nat) (w : World) :
    Calls Try.prog 12 #[.slice none 0 cap] w fun e w' => e = .returned (.slice none 0 0) ∧ w' = w := by
  have kn := fun a n c w => Lib.run_eql_slice_nil (P := Try.prog) w 26 5 a n c 0 0 Try.underlying26
  go_enter Try.func12, Try.ntmps12
  go_wp2
  go_ret
  exact ⟨rfl, rfl⟩

set_option maxRecDepth 20000 in
theorem clone_row (x : Addr) (len cap : Nat) (bs : List UInt8) (w : World) (hr : Rec w (some x) len bs) (hlen : len ≤ 1048576) :
    Calls Try.prog 12 #[.slice (some x) len cap] w fun e w' => ∃ v', e = .returned v' ∧ w'.ownsRow w.heap.size 5 1 v' len (Lib.byteCells bs) ∧ Below w.heap.size w w' := by
  have kn := fun a n c w => Lib.run_eql_slice_nil (P := Try.prog) w 26 5 a n c 0 0 Try.underlying26
  have km := fun w => run_make_row' (P := Try.prog) 26 5 (.int .u8 0) 1 Try.underlying26 infoE rfl .i64 .i64 len (by omega) (by omega) w
  have hlI : (len : Int) ≤ 1048576 := by omega
  obtain ⟨hbl, hr⟩ := hr
  have HBL : Hid (bs.length = len) := hbl
  have HR : Hid (len = 0 ∨ ∃ b off, some x = some ⟨b, off, none⟩ ∧ b < w.heap.size ∧ ∀ i, i < len → w.cell? ⟨b, off + i, none⟩ = some (.int .u8 ((bs[i]?.getD 0).toNat : Int))) := hr
  clear hbl hr
  go_enter Try.func12, Try.ntmps12
  go_wp2
  go_loopw [4] (fun i wr => ∃ k : Nat, k ≤ len ∧ i = .int .i64 k ∧ wr.rowIs w.heap.size 5 len (fun j => if j < k then .int .u8 ((bs[j]?.getD 0).toNat : Int) else .int .u8 0) ∧ Below w.heap.size w wr) (fun i _ => len - (intOf i).toNat)
  case atStart =>
    exact ⟨0, Nat.zero_le _, rfl, (World.rowIs_made w (.int .u8 0) len 5).congr (fun i _ => by simp), (Below.refl _ _).alloc (Nat.le_refl _) _⟩
  case round =>
    obtain ⟨k, hk, rfl, hrow, hB⟩ := hrel
    by_cases hlt : k < len
    · rcases HR.out with h0 | ⟨b, off, hx, hb, hcell⟩
      · omega
      obtain rfl : x = ⟨b, off, none⟩ := by simpa using hx
      have hs : wr.cell? ⟨b, off + k, none⟩ = some (.int .u8 ((bs[k]?.getD 0).toNat : Int)) := (hB.cell (p := ⟨b, off + k, none⟩) hb).trans (hcell k hlt)
      have hd : wr.cell? ⟨w.heap.size, k, none⟩ = some (.int .u8 0) := by rw [hrow.cell hlt]; simp
      have hf := hrow.frozen k
      have HC : Hid (∀ i, i < len → w.cell? ⟨b, off + i, none⟩ = some (.int .u8 ((bs[i]?.getD 0).toNat : Int))) := hcell
      clear hcell hx
      go_wp2
      go_roundw
      case rel =>
        refine ⟨k + 1, by omega, by go_num, (hrow.set k _).congr ?_, hB.setCell (Nat.le_refl _) _⟩
        intro j hj
        by_cases e : j = k
        · subst e; simp
        · simp only [if_neg e]; by_cases e2 : j < k
          · rw [if_pos e2, if_pos (by omega)]
          · rw [if_neg e2, if_neg (by omega)]
      case measure => simp [intOf]; omega
    · go_wp2
      go_ret
      exact ⟨_, rfl, own_of_rowIs _ (Nat.le_refl _) HBL.out (by unfold maxLen; omega) hrow (fun i hi => by rw [if_pos (by omega)]), hB⟩

theorem orv0 (x : Int) (h0 : 0 ≤ x) (h1 : x < 128) : bits .or .u64 0 x = x := by
  rw [u64_orv0 0 x (by omega) (by omega) h0 (by omega) (by omega)]; omega
theorem and127 (a : Int) (a0 : 0 ≤ a) (a1 : a < 128) : bits .and .u8 (a + 128) 127 = a := by
  rw [u8_and127 _ (by omega) (by omega)]; omega

set_option maxRecDepth 20000 in
theorem read1 (g n cap pos : Nat) (x : Int) (w : World) (hn : n ≤ 8388608) (hp : pos < n) (h0 : 0 ≤ x) (h1 : x < 128) (hc : w.cell? ⟨g, pos, none⟩ = some (.int .u8 x)) :
    Calls Try.prog 14 #[.slice (some ⟨g, 0, none⟩) n cap, .int .i64 pos] w fun e w' => e = .returned (.tuple #[.int .u64 x, .int .i64 (pos + 1), .bool true]) ∧ w' = w := by
  have hp1 : (pos : Int) < (n : Int) := by omega
  have hn1 : (n : Int) ≤ 8388608 := by omega
  have ho := orv0 x h0 h1
  go_enter Try.func14, Try.ntmps14
  go_wp2
  go_rounds 1
  go_ret3
  exact ⟨rfl, rfl⟩

set_option maxRecDepth 20000 in
theorem read2 (g n cap pos : Nat) (a b : Int) (w : World) (hn : n ≤ 8388608) (hp : pos + 1 < n) (a0 : 0 ≤ a) (a1 : a < 128) (b0 : 0 ≤ b) (b1 : b < 128)
    (hc : w.cell? ⟨g, pos, none⟩ = some (.int .u8 (a + 128))) (hd : w.cell? ⟨g, pos + 1, none⟩ = some (.int .u8 b)) :
    Calls Try.prog 14 #[.slice (some ⟨g, 0, none⟩) n cap, .int .i64 pos] w fun e w' => e = .returned (.tuple #[.int .u64 (a + b * 128), .int .i64 (pos + 2), .bool true]) ∧ w' = w := by
  have hp1 : (pos : Int) + 1 < (n : Int) := by omega
  have hn1 : (n : Int) ≤ 8388608 := by omega
  have ha := and127 a a0 a1
  have ho := orv0 a a0 a1
  have ho2 : bits .or .u64 a (b * 128) = a + b * 128 := u64_orv7 a (b * 128) a0 (by omega) (by omega) (by omega) (by omega)
  go_enter Try.func14, Try.ntmps14
  go_wp2
  go_rounds 2
  go_ret3
  exact ⟨rfl, rfl⟩

set_option maxRecDepth 20000 in
theorem read3 (g n cap pos : Nat) (a b c : Int) (w : World) (hn : n ≤ 8388608) (hp : pos + 2 < n) (a0 : 0 ≤ a) (a1 : a < 128) (b0 : 0 ≤ b) (b1 : b < 128) (c0 : 0 ≤ c) (c1 : c < 128)
    (hc : w.cell? ⟨g, pos, none⟩ = some (.int .u8 (a + 128))) (hd : w.cell? ⟨g, pos + 1, none⟩ = some (.int .u8 (b + 128))) (he : w.cell? ⟨g, pos + 2, none⟩ = some (.int .u8 c)) :
    Calls Try.prog 14 #[.slice (some ⟨g, 0, none⟩) n cap, .int .i64 pos] w fun e w' => e = .returned (.tuple #[.int .u64 (a + b * 128 + c * 16384), .int .i64 (pos + 3), .bool true]) ∧ w' = w := by
  have hp1 : (pos : Int) + 2 < (n : Int) := by omega
  have hn1 : (n : Int) ≤ 8388608 := by omega
  have ha := and127 a a0 a1
  have hb := and127 b b0 b1
  have ho := orv0 a a0 a1
  have ho2 : bits .or .u64 a (b * 128) = a + b * 128 := u64_orv7 a (b * 128) a0 (by omega) (by omega) (by omega) (by omega)
  have ho3 : bits .or .u64 (a + b * 128) (c * 16384) = a + b * 128 + c * 16384 := u64_orv14 (a + b * 128) (c * 16384) (by omega) (by omega) (by omega) (by omega) (by omega)
  go_enter Try.func14, Try.ntmps14
  go_wp2
  go_rounds 3
  go_ret3
  exact ⟨rfl, rfl⟩

/-- A row of bytes at the head of block g. -/
def Row (w : World) (g : Nat) (L : List UInt8) : Prop := ∀ i, i < L.length → w.cell? ⟨g, i, none⟩ = some (.int .u8 ((L[i]?.getD 0).toNat : Int))

theorem Row.below {w w' : World} {g B : Nat} {L : List UInt8} (h : Row w g L) (hb : Below B w w') (hg : g < B) : Row w' g L := fun i hi => (hb.cell (p := ⟨g, i, none⟩) hg).trans (h i hi)

theorem own_open {w : World} {B n : Nat} {v : Value} {L : List UInt8} (h : w.ownsRow B 5 1 v n (Lib.byteCells L)) (hn : 0 < n) :
    L.length = n ∧ ∃ g cap, v = .slice (some ⟨g, 0, none⟩) n cap ∧ B ≤ g ∧ g < w.heap.size ∧ Row w g L := by
  have hl : L.length = n := by have := h.1; rw [Lib.byteCells_length] at this; omega
  obtain ⟨h1, h2 | ⟨g, cap, cur, hv, hB, hh, hc, hm, hs, ht⟩⟩ := h
  · omega
  refine ⟨hl, g, cap, hv, hB, (Array.getElem?_eq_some_iff.1 hh).1, fun i hi => ?_⟩
  have e : (cur.toList.take (n * 1))[i]? = (Lib.byteCells L)[i]? := by rw [ht]
  rw [List.getElem?_take, if_pos (by omega), Array.getElem?_toList, Lib.byteCells, List.getElem?_map] at e
  simp only [World.cell?, hh, e]
  simp [hi]

theorem read_any (g n cap pos x : Nat) (L rest : List UInt8) (w : World) (hL : L.length = n) (hn : n ≤ 8388608) (hx : x ≤ 1048576) (hc : Row w g L) (hd : L.drop pos = Lib.uvarint x ++ rest) :
    Calls Try.prog 14 #[.slice (some ⟨g, 0, none⟩) n cap, .int .i64 pos] w fun e w' => e = .returned (.tuple #[.int .u64 x, .int .i64 ((pos + (Lib.uvarint x).length : Nat) : Int), .bool true]) ∧ w' = w := by
  have hlen : n - pos = (Lib.uvarint x).length + rest.length := by have := congrArg List.length hd; simp at this; omega
  have hat : ∀ i u, (Lib.uvarint x)[i]? = some u → pos + i < n ∧ w.cell? ⟨g, pos + i, none⟩ = some (.int .u8 (u.toNat : Int)) := by
    intro i u hu
    have hi : i < (Lib.uvarint x).length := (List.getElem?_eq_some_iff.1 hu).1
    have e : (L.drop pos)[i]? = some u := by rw [hd, List.getElem?_append_left hi, hu]
    rw [List.getElem?_drop] at e
    have hp : pos + i < L.length := (List.getElem?_eq_some_iff.1 e).1
    refine ⟨by omega, ?_⟩
    rw [hc (pos + i) hp, e]
    rfl
  by_cases h1 : x < 128
  · have e := Lib.uvarint_small h1
    obtain ⟨p0, c0⟩ := hat 0 x.toUInt8 (by rw [e]; rfl)
    rw [Lib.toUInt8_toNat (by omega)] at c0
    rw [e]
    exact read1 g n cap pos x w hn p0 (by omega) (by omega) c0
  · have e := Lib.uvarint_big (x := x) (by omega)
    by_cases h2 : x / 128 < 128
    · have e2 := Lib.uvarint_small h2
      rw [e2] at e
      obtain ⟨p0, c0⟩ := hat 0 (x % 128 + 128).toUInt8 (by rw [e]; rfl)
      obtain ⟨p1, c1⟩ := hat 1 (x / 128).toUInt8 (by rw [e]; rfl)
      rw [Lib.toUInt8_toNat (by omega)] at c0 c1
      have := read2 g n cap pos (x % 128 : Nat) (x / 128 : Nat) w hn p1 (by omega) (by omega) (by omega) (by omega) (by simpa using c0) c1
      rw [e]
      have ex : ((x % 128 : Nat) : Int) + ((x / 128 : Nat) : Int) * 128 = (x : Int) := by omega
      rw [ex] at this
      exact this
    · have e2 := Lib.uvarint_big (x := x / 128) (by omega)
      have e3 := Lib.uvarint_small (x := x / 128 / 128) (by omega)
      rw [e3] at e2
      rw [e2] at e
      obtain ⟨p0, c0⟩ := hat 0 (x % 128 + 128).toUInt8 (by rw [e]; rfl)
      obtain ⟨p1, c1⟩ := hat 1 (x / 128 % 128 + 128).toUInt8 (by rw [e]; rfl)
      obtain ⟨p2, c2⟩ := hat 2 (x / 128 / 128).toUInt8 (by rw [e]; rfl)
      rw [Lib.toUInt8_toNat (by omega)] at c0 c1 c2
      have := read3 g n cap pos (x % 128 : Nat) (x / 128 % 128 : Nat) (x / 128 / 128 : Nat) w hn p2 (by omega) (by omega) (by omega) (by omega) (by omega) (by omega) (by simpa using c0) (by simpa using c1) c2
      rw [e]
      have ex : ((x % 128 : Nat) : Int) + ((x / 128 % 128 : Nat) : Int) * 128 + ((x / 128 / 128 : Nat) : Int) * 16384 = (x : Int) := by omega
      rw [ex] at this
      exact this

/-- zzCloneBytes. -/
theorem clone_any (a : Option Addr) (len cap : Nat) (bs : List UInt8) (w : World) (hr : Rec w a len bs) (hnil : a = none → len = 0) (hlen : len ≤ 1048576) :
    Calls Try.prog 12 #[.slice a len cap] w fun e w' => ∃ v', e = .returned v' ∧ w'.ownsRow w.heap.size 5 1 v' len (Lib.byteCells bs) ∧ Below w.heap.size w w' := by
  cases a with
  | none =>
    obtain rfl := hnil rfl
    obtain rfl : bs = [] := List.eq_nil_of_length_eq_zero hr.1
    refine (clone_nil cap w).mono ?_
    rintro e w' ⟨rfl, rfl⟩
    exact ⟨_, rfl, World.ownsRow_nil _ _ _ _, Below.refl _ _⟩
  | some x => exact clone_row x len cap bs w hr hlen

/-- AppendString, what it hands back laid open. -/
theorem append_open (B n K : Nat) (s : ByteArray) (hs : s.size ≤ 1048576) (hK : (Lib.uvarint s.size).length = K) (sv : Value) (bs : List UInt8) (w : World) (hown : w.ownsRow B 5 1 sv n (Lib.byteCells bs)) (hBw : B ≤ w.heap.size) (hn : n ≤ 8388608) :
    Calls Try.prog 13 #[sv, .string s] w fun e w' => ∃ g cap, e = .returned (.slice (some ⟨g, 0, none⟩) (n + (K + s.size)) cap) ∧ w'.ownsRow B 5 1 (.slice (some ⟨g, 0, none⟩) (n + (K + s.size)) cap) (n + (K + s.size)) (Lib.byteCells (bs ++ frame s)) ∧ B ≤ g ∧ g < w'.heap.size ∧ Row w' g (bs ++ frame s) ∧ Below B w w' := by
  refine (append_any B n s hs sv bs w hown hBw hn).mono ?_
  rintro e w' ⟨v', rfl, h1, hb⟩
  have hp := Lib.uvarint_pos s.size
  rw [frame_length, hK] at h1
  obtain ⟨hl, g, cap, rfl, h2, h3, h4⟩ := own_open h1 (by omega)
  exact ⟨g, cap, rfl, h1, h2, h3, h4, hb⟩
end Go.Proofs.Qxb6616417a.Fr
