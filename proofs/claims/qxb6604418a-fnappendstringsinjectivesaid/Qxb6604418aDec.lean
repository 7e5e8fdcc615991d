import Derived.Test.Qxb6604418aStrings
import Derived.Lib.VarintBits
import Derived.Lib.EndianBits
import Derived.Deep.QuietTactic
import Derived.BigQuiet
import Derived.WalkSmall
namespace Go.Proofs.Qxb6604418a
open Go.RowKit

theorem part0 (x : Int) (h0 : 0 ≤ x) (h1 : x < 256) : bits .or .u64 0 (IntKind.u64.wrap (IntKind.u64.wrap (bits .and .u8 x 127))) = x % 128 := by
  rw [u8_and127 _ h0 h1, u64_wrap_id (x % 128) (by omega) (by omega), u64_wrap_id (x % 128) (by omega) (by omega), u64_orv0 _ _ (by omega) (by omega) (by omega) (by omega) (by omega)]
  omega
theorem part1 (v y : Int) (hv0 : 0 ≤ v) (hv : v < 128) (h0 : 0 ≤ y) (h1 : y < 256) : bits .or .u64 v (IntKind.u64.wrap (IntKind.u64.wrap (bits .and .u8 y 127) * 128)) = v + y % 128 * 128 := by
  rw [u8_and127 _ h0 h1, u64_wrap_id (y % 128) (by omega) (by omega), u64_wrap_id _ (by omega) (by omega), u64_orv7 _ _ (by omega) (by omega) (by omega) (by omega) (by omega)]
theorem part2 (v y : Int) (hv0 : 0 ≤ v) (hv : v < 16384) (h0 : 0 ≤ y) (h1 : y < 256) : bits .or .u64 v (IntKind.u64.wrap (IntKind.u64.wrap (bits .and .u8 y 127) * 16384)) = v + y % 128 * 16384 := by
  rw [u8_and127 _ h0 h1, u64_wrap_id (y % 128) (by omega) (by omega), u64_wrap_id _ (by omega) (by omega), u64_orv14 _ _ (by omega) (by omega) (by omega) (by omega) (by omega)]
theorem ret3 {a a' b b' : Int} (h : a = a') (h2 : b = b') : Ending.returned (.tuple #[.int .u64 a, .int .i64 b, .bool true]) = .returned (.tuple #[.int .u64 a', .int .i64 b', .bool true]) := by rw [h, h2]

set_option maxRecDepth 100000 in
set_option maxHeartbeats 1000000 in
theorem dec1 (g N c i x : Nat) (w : World) (hN : N ≤ 4398046511104) (hx : x < 128) (hi : i < N) (h0 : w.cell? ⟨g, i, none⟩ = some (.int .u8 (x : Int))) :
    Calls Try.prog 16 #[.slice (some ⟨g, 0, none⟩) N c, .int .i64 i] w fun e w' => e = .returned (.tuple #[.int .u64 x, .int .i64 (i + 1 : Nat), .bool true]) ∧ w' = w := by
  go_enter Try.func16, Try.ntmps16
  go_wp2
  refine wp_loop_rounds 1 ?_
  rw [rounds_succ]
  go_wp2
  go_ret3
  exact ⟨ret3 (by rw [part0 _ (by omega) (by omega)]; omega) (by omega), rfl⟩

set_option maxRecDepth 100000 in
set_option maxHeartbeats 1000000 in
theorem dec2 (g N c i x y : Nat) (w : World) (hN : N ≤ 4398046511104) (hx0 : 128 ≤ x) (hx : x < 256) (hy0 : 0 < y) (hy : y < 128) (hi : i + 1 < N) (h0 : w.cell? ⟨g, i, none⟩ = some (.int .u8 (x : Int))) (h1 : w.cell? ⟨g, i + 1, none⟩ = some (.int .u8 (y : Int))) :
    Calls Try.prog 16 #[.slice (some ⟨g, 0, none⟩) N c, .int .i64 i] w fun e w' => e = .returned (.tuple #[.int .u64 (x % 128 + y * 128 : Nat), .int .i64 (i + 2 : Nat), .bool true]) ∧ w' = w := by
  go_enter Try.func16, Try.ntmps16
  go_wp2
  refine wp_loop_rounds 2 ?_
  rw [rounds_succ]
  go_wp2
  rw [rounds_succ]
  go_wp2
  go_ret3
  exact ⟨ret3 (by rw [part0 _ (by omega) (by omega), part1 _ _ (by omega) (by omega) (by omega) (by omega)]; omega) (by omega), rfl⟩

set_option maxRecDepth 100000 in
set_option maxHeartbeats 1000000 in
theorem dec3 (g N c i x y z : Nat) (w : World) (hN : N ≤ 4398046511104) (hx0 : 128 ≤ x) (hx : x < 256) (hy0 : 128 ≤ y) (hy : y < 256) (hz0 : 0 < z) (hz : z < 128) (hi : i + 2 < N) (h0 : w.cell? ⟨g, i, none⟩ = some (.int .u8 (x : Int))) (h1 : w.cell? ⟨g, i + 1, none⟩ = some (.int .u8 (y : Int))) (h2 : w.cell? ⟨g, i + 2, none⟩ = some (.int .u8 (z : Int))) :
    Calls Try.prog 16 #[.slice (some ⟨g, 0, none⟩) N c, .int .i64 i] w fun e w' => e = .returned (.tuple #[.int .u64 (x % 128 + y % 128 * 128 + z * 16384 : Nat), .int .i64 (i + 3 : Nat), .bool true]) ∧ w' = w := by
  go_enter Try.func16, Try.ntmps16
  go_wp2
  refine wp_loop_rounds 3 ?_
  rw [rounds_succ]
  go_wp2
  rw [rounds_succ]
  go_wp2
  rw [rounds_succ]
  go_wp2
  go_ret3
  exact ⟨ret3 (by rw [part0 _ (by omega) (by omega), part1 _ _ (by omega) (by omega) (by omega) (by omega), part2 _ _ (by omega) (by omega) (by omega) (by omega)]; omega) (by omega), rfl⟩

/-! ### the contract: a canonical number is read -/
/-- the bytes 'm' stand at place 'i' of 'l' -/
def At (l : List UInt8) (i : Nat) (m : List UInt8) : Prop := ∃ r, l.drop i = m ++ r

theorem At.get {l m : List UInt8} {i : Nat} (h : At l i m) {k : Nat} (hk : k < m.length) : ∃ h2 : i + k < l.length, l[i + k] = m[k] := by
  obtain ⟨r, hr⟩ := h
  have h1 : l[i + k]? = some m[k] := by
    rw [← List.getElem?_drop, hr, List.getElem?_append_left hk, List.getElem?_eq_getElem hk]
  obtain ⟨h2, h3⟩ := List.getElem?_eq_some_iff.1 h1
  exact ⟨h2, h3⟩

theorem At.cell {w : World} {g N c : Nat} {l m : List UInt8} {i : Nat} (hb : BytesAt w (some ⟨g, 0, none⟩) N c l) (h : At l i m) {k : Nat} (hk : k < m.length) : i + k < N ∧ w.cell? ⟨g, i + k, none⟩ = some (.int .u8 (m[k].toNat : Int)) := by
  obtain ⟨h2, h3⟩ := h.get hk
  have := hb.cell h2
  rw [Nat.zero_add, h3] at this
  exact ⟨by rw [← hb.1]; exact h2, this⟩

theorem At.next {l m r : List UInt8} {i : Nat} (h : At l i (m ++ r)) : At l (i + m.length) r := by
  obtain ⟨q, hq⟩ := h
  refine ⟨q, ?_⟩
  rw [← List.drop_drop, hq, List.append_assoc, List.drop_left]
theorem At.head {l m r : List UInt8} {i : Nat} (h : At l i (m ++ r)) : At l i m := by
  obtain ⟨q, hq⟩ := h
  exact ⟨r ++ q, by rw [hq, List.append_assoc]⟩

theorem u8nat {a : Nat} (h : a < 256) : (a.toUInt8).toNat = a := Lib.toUInt8_toNat h

theorem dec_any (g N c i x : Nat) (l : List UInt8) (w : World) (hN : N ≤ 4398046511104) (hx : x ≤ 1048576) (hb : BytesAt w (some ⟨g, 0, none⟩) N c l) (h : At l i (Lib.uvarint x)) :
    Calls Try.prog 16 #[.slice (some ⟨g, 0, none⟩) N c, .int .i64 i] w fun e w' => e = .returned (.tuple #[.int .u64 x, .int .i64 (i + (Lib.uvarint x).length : Nat), .bool true]) ∧ w' = w := by
  by_cases h1 : x < 128
  · rw [Lib.uvarint_small h1] at h ⊢
    obtain ⟨l0, c0⟩ := h.cell hb (k := 0) (by simp)
    simp only [List.getElem_cons_zero, u8nat (show x < 256 by omega), Nat.add_zero] at c0
    exact dec1 g N c i x w hN h1 (by omega) c0
  · by_cases h2 : x < 16384
    · rw [Lib.uvarint_big (by omega), Lib.uvarint_small (by omega)] at h ⊢
      obtain ⟨l0, c0⟩ := h.cell hb (k := 0) (by simp)
      obtain ⟨l1, c1⟩ := h.cell hb (k := 1) (by simp)
      simp only [List.getElem_cons_zero, List.getElem_cons_succ, u8nat (show x % 128 + 128 < 256 by omega), u8nat (show x / 128 < 256 by omega), Nat.add_zero] at c0 c1
      have := dec2 g N c i (x % 128 + 128) (x / 128) w hN (by omega) (by omega) (by omega) (by omega) l1 c0 c1
      rw [show (x % 128 + 128) % 128 + x / 128 * 128 = x by omega] at this
      exact this
    · rw [Lib.uvarint_big (by omega), Lib.uvarint_big (by omega), Lib.uvarint_small (by omega)] at h ⊢
      obtain ⟨l0, c0⟩ := h.cell hb (k := 0) (by simp)
      obtain ⟨l1, c1⟩ := h.cell hb (k := 1) (by simp)
      obtain ⟨l2, c2⟩ := h.cell hb (k := 2) (by simp)
      simp only [List.getElem_cons_zero, List.getElem_cons_succ, u8nat (show x % 128 + 128 < 256 by omega), u8nat (show x / 128 % 128 + 128 < 256 by omega), u8nat (show x / 128 / 128 < 256 by omega), Nat.add_zero] at c0 c1 c2
      have := dec3 g N c i (x % 128 + 128) (x / 128 % 128 + 128) (x / 128 / 128) w hN (by omega) (by omega) (by omega) (by omega) (by omega) (by omega) l2 c0 c1 c2
      rw [show (x % 128 + 128) % 128 + (x / 128 % 128 + 128) % 128 * 128 + x / 128 / 128 * 16384 = x by omega] at this
      exact this

/-! ### zzHasAtBytes -/
set_option maxHeartbeats 1000000 in
theorem hasAt_any (g N c i : Nat) (s : ByteArray) (l : List UInt8) (w : World) (hN : N ≤ 4398046511104) (hi : i ≤ N) (_hs : s.size ≤ 1048576) (hb : BytesAt w (some ⟨g, 0, none⟩) N c l) (h : At l i s.data.toList) :
    Calls Try.prog 17 #[.slice (some ⟨g, 0, none⟩) N c, .int .i64 i, .string s] w fun e w' => e = .returned (.bool true) ∧ ∃ q, w' = w.drewN q := by
  have hsl : s.data.toList.length = s.size := Array.length_toList
  have hfit : i + s.size ≤ N := by
    obtain ⟨r, hr⟩ := h
    have := congrArg List.length hr
    rw [List.length_drop, List.length_append, hb.1, hsl] at this
    omega
  have f1 : ¬ (i : Int) < 0 := by omega
  have f2 : ¬ (N : Int) < (i : Int) := by omega
  have f3 : ¬ (N : Int) - (i : Int) < (s.size : Int) := by omega
  have f2n : ¬ N < i := by omega
  go_enter Try.func17, Try.ntmps17
  go_wp2
  go_loopw [7] (fun z wr => ∃ k : Nat, k ≤ s.size ∧ z = .int .i64 k ∧ ∃ q, wr = w.drewN q) (fun z _ => s.size - (intOf z).toNat)
  case atStart => exact ⟨0, Nat.zero_le _, rfl, 0, rfl⟩
  case round =>
    obtain ⟨k, hk, rfl, q, rfl⟩ := hrel
    by_cases hlt : k < s.size
    · obtain ⟨l0, c0⟩ := h.cell hb (k := k) (by omega)
      have c1 : w.cell? ⟨g, i + k, none⟩ = some (.int .u8 (s[k].toNat : Int)) := c0
      clear c0
      have hkz : (i : Int) + (k : Int) < (N : Int) := by omega
      have hkz2 : (k : Int) < (s.size : Int) := by omega
      go_wp2
      go_quiet (fail)
      go_wp2
      go_roundw
      case rel => exact ⟨k + 1, by omega, by go_num, _, rfl⟩
      case measure => simp [intOf]; omega
    · go_wp2
      go_ret
      exact ⟨rfl, _, rfl⟩
end Go.Proofs.Qxb6604418a
