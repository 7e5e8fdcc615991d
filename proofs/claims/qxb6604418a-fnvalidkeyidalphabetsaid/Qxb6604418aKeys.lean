import Derived.Test.Qxb6604418aRows
import Derived.WalkKit
import Derived.WalkSpells
import Derived.WalkLawsBesides
import Derived.Lib.Strings
namespace Go.Proofs.Qxb6604418a
open Go.RowKit

/-- one of the 37 bytes -/
def alpha (c : Int) : Bool := decide ((97 ≤ c ∧ c ≤ 122) ∨ (48 ≤ c ∧ c ≤ 57) ∨ c = 45)
/-- the byte at place j of the alphabet -/
def letter (j : Nat) : Int := if j < 26 then 97 + j else if j < 36 then 22 + j else 45
def alphabet : ByteArray := { data := #[97, 98, 99, 100, 101, 102, 103, 104, 105, 106, 107, 108, 109, 110, 111, 112, 113, 114, 115, 116, 117, 118, 119, 120, 121, 122, 48, 49, 50, 51, 52, 53, 54, 55, 56, 57, 45] }

theorem letter_at : ∀ (k : Nat) (h : k < 37), (({ data := #[97, 98, 99, 100, 101, 102, 103, 104, 105, 106, 107, 108, 109, 110, 111, 112, 113, 114, 115, 116, 117, 118, 119, 120, 121, 122, 48, 49, 50, 51, 52, 53, 54, 55, 56, 57, 45] } : ByteArray)[k]'h).toNat = letter k := by
  decide

theorem alpha_letter (k : Nat) (h : k < 37) : alpha (letter k) = true := by
  unfold alpha letter
  split
  · simp; omega
  · split
    · simp; omega
    · simp

theorem alpha_not (c : Int) (h : ∀ j, j < 37 → letter j ≠ c) : alpha c = false := by
  unfold alpha
  rw [decide_eq_false_iff_not]
  rintro (⟨h1, h2⟩ | ⟨h1, h2⟩ | rfl)
  · refine h (c - 97).toNat (by omega) ?_
    unfold letter
    rw [if_pos (by omega)]
    omega
  · refine h (c - 22).toNat (by omega) ?_
    unfold letter
    rw [if_neg (by omega), if_pos (by omega)]
    omega
  · exact h 36 (by omega) rfl

set_option maxHeartbeats 1000000 in
theorem inAlphabet_any (c : Int) (w : World) :
    Calls Try.prog 11 #[.int .u8 c] w fun e w' => e = .returned (.bool (alpha c)) ∧ w' = w := by
  go_enter Try.func11, Try.ntmps11
  go_wp2
  go_loop [3] (fun i => ∃ k : Nat, k ≤ 37 ∧ i = .int .i64 k ∧ Hid (∀ j, j < k → letter j ≠ c)) (fun i => 37 - (intOf i).toNat)
  case atStart => exact ⟨0, Nat.zero_le _, rfl, fun j hj => absurd hj (Nat.not_lt_zero _)⟩
  case round =>
    obtain ⟨k, hk, rfl, HN⟩ := hrel
    by_cases hlt : k < 37
    · have hl := letter_at k hlt
      have hlz : (k : Int) < 37 := by omega
      go_wp2
      · have h : (letter k == c) = true := by assumption
        have h' : letter k = c := by simpa using h
        go_ret
        exact ⟨by rw [← h', alpha_letter k hlt]; rfl, rfl⟩
      · have h : (letter k == c) = false := by assumption
        go_round
        case rel =>
          refine ⟨k + 1, by omega, by go_num, fun j hj => ?_⟩
          by_cases e : j = k
          · subst e; simpa using h
          · exact HN.out j (by omega)
        case measure => simp [intOf]; omega
    · have hlz : ¬ (k : Int) < 37 := by omega
      go_wp2
      go_ret
      exact ⟨by rw [alpha_not c (fun j hj => HN.out j (by omega))]; rfl, rfl⟩

/-! ### validKeyID -/
def alphaB (c : UInt8) : Bool := alpha (c.toNat : Int)
def validL (l : List UInt8) : Bool := decide (1 ≤ l.length ∧ l.length ≤ 16) && l.all alphaB
def validB (s : ByteArray) : Bool := validL s.data.toList

theorem size_toList (u : ByteArray) : u.data.toList.length = u.size := Array.length_toList

theorem take_snoc (s : ByteArray) (k : Nat) (h : k < s.size) : s.data.toList.take (k + 1) = s.data.toList.take k ++ [s[k]] := by
  rw [List.take_succ_eq_append_getElem (by rw [size_toList]; exact h)]; rfl

theorem all_step {s : ByteArray} {k : Nat} (h : k < s.size) (ha : (s.data.toList.take k).all alphaB = true) (hc : alphaB s[k] = true) : (s.data.toList.take (k + 1)).all alphaB = true := by
  rw [take_snoc s k h, List.all_append, ha]
  simp [hc]
theorem all_stop {s : ByteArray} {k : Nat} (h : k < s.size) (hc : alphaB s[k] = false) : s.data.toList.all alphaB = false := by
  rw [Bool.eq_false_iff]
  intro ha
  have hm : s[k] ∈ s.data.toList := List.mem_of_getElem? (i := k) (List.getElem?_eq_getElem (by rw [size_toList]; exact h))
  rw [List.all_eq_true.1 ha _ hm] at hc
  cases hc
theorem valid_no {s : ByteArray} {k : Nat} (h : k < s.size) (hc : alphaB s[k] = false) : validB s = false := by
  unfold validB validL
  rw [all_stop h hc]
  simp
theorem valid_yes {s : ByteArray} (h0 : 0 < s.size) (h1 : s.size ≤ 16) (ha : (s.data.toList.take s.size).all alphaB = true) : validB s = true := by
  have hl := size_toList s
  rw [List.take_of_length_le (by omega)] at ha
  unfold validB validL
  rw [ha, hl, decide_eq_true (by omega)]
  rfl
theorem valid_size {s : ByteArray} (h : s.size = 0 ∨ 16 < s.size) : validB s = false := by
  have hl := size_toList s
  unfold validB validL
  rw [hl, decide_eq_false (by omega)]
  rfl

theorem isEmpty_of (u : ByteArray) (h : u.size = 0) : u.toList.isEmpty = true := by
  have hl := size_toList u
  rw [Lib.toList_data, List.isEmpty_iff]
  exact List.length_eq_zero_iff.1 (by omega)
theorem isEmpty_not (u : ByteArray) (h : u.size ≠ 0) : u.toList.isEmpty = false := by
  have hl := size_toList u
  rw [Lib.toList_data]
  cases hd : u.data.toList with
  | nil => rw [hd] at hl; simp at hl; omega
  | cons a r => rfl

set_option maxHeartbeats 1000000 in
theorem valid_any (s : ByteArray) (w : World) (hs : s.size ≤ maxLen) :
    Calls Try.prog 22 #[.string s] w fun e w' => e = .returned (.bool (validB s)) ∧ w' = w := by
  unfold maxLen at hs
  by_cases h0 : s.size = 0
  · have e := isEmpty_of s h0
    have hv := valid_size (.inl h0)
    rw [hv]
    clear hv
    go_enter Try.func22, Try.ntmps22
    go_wp2
    go_ret
    exact ⟨rfl, rfl⟩
  · have e := isEmpty_not s h0
    by_cases h16 : 16 < s.size
    · have hz : (16 : Int) < (s.size : Int) := by omega
      have hv := valid_size (.inr h16)
      rw [hv]
      clear hv
      go_enter Try.func22, Try.ntmps22
      go_wp2
      go_ret
      exact ⟨rfl, rfl⟩
    · have hz : ¬ (16 : Int) < (s.size : Int) := by omega
      have hzd : decide ((16 : Int) < (s.size : Int)) = false := decide_eq_false hz
      go_enter Try.func22, Try.ntmps22
      go_wp2
      go_loop [3] (fun i => ∃ k : Nat, k ≤ s.size ∧ i = .int .i64 k ∧ Hid ((s.data.toList.take k).all alphaB = true)) (fun i => s.size - (intOf i).toNat)
      case atStart => exact ⟨0, Nat.zero_le _, rfl, by simp [Hid]⟩
      case round =>
        obtain ⟨k, hk, rfl, HA⟩ := hrel
        by_cases hlt : k < s.size
        · obtain ⟨c, hc⟩ : ∃ c : Int, c = (s[k].toNat : Int) := ⟨_, rfl⟩
          cases ha : alphaB s[k] with
          | true =>
            have hst : Hid _ := all_step hlt HA.out ha
            have h3 : (97 ≤ (s[k].toNat : Int) ∧ (s[k].toNat : Int) ≤ 122) ∨ (48 ≤ (s[k].toNat : Int) ∧ (s[k].toNat : Int) ≤ 57) ∨ (s[k].toNat : Int) = 45 := by
              simpa [alphaB, alpha] using ha
            clear ha hc
            rcases h3 with ⟨h3, h4⟩ | ⟨h3, h4⟩ | h3
            all_goals
              go_wp2
              go_round
              case rel => exact ⟨k + 1, by omega, by go_num, hst⟩
              case measure => simp [intOf]; omega
          | false =>
            have hv : Hid _ := valid_no hlt ha
            have h3 : ¬ ((97 ≤ (s[k].toNat : Int) ∧ (s[k].toNat : Int) ≤ 122) ∨ (48 ≤ (s[k].toNat : Int) ∧ (s[k].toNat : Int) ≤ 57) ∨ (s[k].toNat : Int) = 45) := by
              simpa [alphaB, alpha] using ha
            have h5 : ((s[k].toNat : Int) == 45) = false := beq_eq_false_iff_ne.2 (by omega)
            have h6 : ((s[k].toNat : Int) < 48) ∨ (57 < (s[k].toNat : Int) ∧ (s[k].toNat : Int) < 97) ∨ 122 < (s[k].toNat : Int) := by omega
            have h5' : ((s[k].toNat : Int) != 45) = true := by rw [bne, h5]; rfl
            clear ha hc h3
            rcases h6 with h6 | ⟨h6, h7⟩ | h6
            all_goals
              go_wp2
              go_ret
              exact ⟨by rw [hv.out]; rfl, rfl⟩
        · go_wp2
          go_ret
          have hks : k = s.size := by omega
          exact ⟨by rw [valid_yes (by omega) (by omega) (by rw [← hks]; exact HA.out)]; rfl, rfl⟩

theorem zvalid_any (s : ByteArray) (w : World) (hs : s.size ≤ maxLen) :
    Calls Try.prog 9 #[.string s] w fun e w' => e = .returned (.bool (validB s)) ∧ w' = w := by
  go_enter Try.func9, Try.ntmps9
  go_wp2_with (go_at_call 22; refine (valid_any s _ hs).mono ?_; rintro e w' ⟨rfl, hw⟩; subst w')
  go_ret
  exact ⟨rfl, rfl⟩
end Go.Proofs.Qxb6604418a
