import Derived.Test.Qxb6604418aMem
namespace Go.Proofs.Qxb6604418a
open Go.RowKit

/-- the first k fields -/
def encTo (ss : Nat → ByteArray) (k : Nat) : List UInt8 := (List.range k).flatMap fun i => encS (ss i)
def encL (ss : Nat → ByteArray) (n : Nat) : List UInt8 := Lib.uvarint n ++ encTo ss n
theorem encTo_succ (ss : Nat → ByteArray) (k : Nat) : encTo ss (k + 1) = encTo ss k ++ encS (ss k) := by
  simp [encTo, List.range_succ]
theorem encS_length (s : ByteArray) (h : s.size ≤ 1048576) : (encS s).length ≤ 1048579 := by
  have := Lib.uvarint_length 2 s.size (by omega)
  have h2 : s.data.toList.length = s.size := Array.length_toList
  rw [encS, List.length_append]
  omega
theorem encTo_length (ss : Nat → ByteArray) (n : Nat) (h : ∀ i, i < n → (ss i).size ≤ 1048576) : ∀ k, k ≤ n → (encTo ss k).length ≤ k * 1048579 := by
  intro k
  induction k with
  | zero => intro _; simp [encTo]
  | succ k ih =>
    intro hk
    have := ih (by omega)
    have h2 := encS_length (ss k) (h k (by omega))
    rw [encTo_succ, List.length_append]
    omega

set_option maxHeartbeats 2000000 in
theorem appendStrings_pos (B : Nat) (l : List UInt8) (b off n c : Nat) (ss : Nat → ByteArray) (sv : Value) (w : World) (hown : Has w B sv l) (hBw : B ≤ w.heap.size) (hl : l.length ≤ 1048576) (hn : n ≤ 1048576)
    (hs : ∀ i, i < n → (ss i).size ≤ 1048576) (hb : b < B) (hc : ∀ i, i < n → w.cell? ⟨b, off + i, none⟩ = some (.string (ss i))) :
    Calls Try.prog 23 #[sv, .slice (some ⟨b, off, none⟩) n c] w (GrowPost w B (l ++ encL ss n)) := by
  have hu := auv B l n hn sv w hown hBw (by omega)
  have hul := Lib.uvarint_length 2 n (by omega)
  have het := encTo_length ss n hs
  go_enter Try.func23, Try.ntmps23
  go_wp2_with fail
  refine hu.mono ?_
  rintro e w1 ⟨v1, rfl, h1, hb1⟩
  clear hu
  have hs1 := hb1.size
  have hml : (l ++ Lib.uvarint n).length ≤ l.length + 3 := by rw [List.length_append]; omega
  go_wp2
  go_loopw [0, 14] (fun v i wr => ∃ k : Nat, k ≤ n ∧ i = .int .i64 k ∧ Has wr B v (l ++ Lib.uvarint n ++ encTo ss k) ∧ Below B w wr) (fun _ i _ => n - (intOf i).toNat)
  case atStart => exact ⟨0, Nat.zero_le _, rfl, by simpa [encTo] using h1, hb1⟩
  case round =>
    obtain ⟨k, hk, rfl, hh, hbel⟩ := hrel
    by_cases hlt : k < n
    · have hc1 : wr.cell? ⟨b, off + k, none⟩ = some (.string (ss k)) := (hbel.cell (by exact hb)).trans (hc k hlt)
      have hsz := hbel.size
      have hekl := het k hk
      have htot : (l ++ Lib.uvarint n ++ encTo ss k).length ≤ 70368744177664 := by rw [List.length_append]; omega
      have hf := appendField_any B _ (ss k) (hs k hlt) _ wr hh (by omega) htot
      go_wp2_with (go_at_call 26; refine hf.mono ?_; rintro e w' ⟨v2, rfl, h2, hb2⟩)
      go_roundw
      case rel => exact ⟨k + 1, by omega, by go_num, by rw [encTo_succ, ← List.append_assoc]; assumption, hbel.trans (by assumption)⟩
      case measure => simp [intOf]; omega
    · go_wp2
      go_ret
      have hkn : k = n := by omega
      subst hkn
      exact ⟨_, rfl, by unfold encL; rw [← List.append_assoc]; exact hh, hbel⟩

set_option maxHeartbeats 2000000 in
theorem appendStrings_zero (B : Nat) (l : List UInt8) (a : Option Addr) (c : Nat) (ss : Nat → ByteArray) (sv : Value) (w : World) (hown : Has w B sv l) (hBw : B ≤ w.heap.size) (hl : l.length ≤ 1048576) :
    Calls Try.prog 23 #[sv, .slice a 0 c] w (GrowPost w B (l ++ encL ss 0)) := by
  have hu : Calls Try.prog 25 #[sv, .int .u64 0] w _ := auv B l 0 (by omega) sv w hown hBw (by omega)
  go_enter Try.func23, Try.ntmps23
  go_wp2_with fail
  refine hu.mono ?_
  rintro e w1 ⟨v1, rfl, h1, hb1⟩
  clear hu
  go_wp2
  refine wp_loop_rounds 1 ?_
  rw [rounds_succ]
  go_wp2
  go_ret
  exact ⟨_, rfl, by simpa [encL, encTo] using h1, hb1⟩

theorem appendStrings_any (B : Nat) (l : List UInt8) (a : Option Addr) (n c : Nat) (ss : Nat → ByteArray) (sv : Value) (w : World) (hown : Has w B sv l) (hBw : B ≤ w.heap.size) (hl : l.length ≤ 1048576) (hn : n ≤ 1048576)
    (hs : ∀ i, i < n → (ss i).size ≤ 1048576) (h : Strs w B a n ss) :
    Calls Try.prog 15 #[sv, .slice a n c] w (GrowPost w B (l ++ encL ss n)) := by
  have hc : Calls Try.prog 23 #[sv, .slice a n c] w (GrowPost w B (l ++ encL ss n)) := by
    rcases h with rfl | ⟨b, off, rfl, hb, hc⟩
    · exact appendStrings_zero B l a c ss sv w hown hBw hl
    · exact appendStrings_pos B l b off n c ss sv w hown hBw hl hn hs hb hc
  go_enter Try.func15, Try.ntmps15
  go_wp2_with fail
  refine hc.mono ?_
  rintro e w1 ⟨v1, rfl, h1, hb1⟩
  go_wp2
  go_ret
  exact ⟨_, rfl, h1, hb1⟩
end Go.Proofs.Qxb6604418a
