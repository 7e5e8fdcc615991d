import Derived.Test.Qxb6604410aRows
import Derived.WalkKit
import Derived.WalkSpells
import Derived.WalkLawsBesides
import Derived.Lib.Strings
namespace Go.Proofs.Qxb6604410a
open Go.RowKit

def blank (c : UInt8) : Bool := c == 32 || c == 9
def blankI (c : Int) : Bool := decide (c = 32 ∨ c = 9)

set_option maxHeartbeats 400000 in
theorem isBlank_yes (c : Int) (w : World) (h : blankI c = true) : Calls Try.prog 7 #[.int .u8 c] w fun e w' => e = .returned (.bool true) ∧ w' = w := by
  have h' : c = 32 ∨ c = 9 := by simpa [blankI] using h
  clear h
  rcases h' with rfl | rfl
  all_goals
    go_enter Try.func7, Try.ntmps7
    go_wp2
    go_ret
    exact ⟨rfl, rfl⟩

set_option maxHeartbeats 400000 in
theorem isBlank_no (c : Int) (w : World) (h : blankI c = false) : Calls Try.prog 7 #[.int .u8 c] w fun e w' => e = .returned (.bool false) ∧ w' = w := by
  have h' : ¬ (c = 32 ∨ c = 9) := by simpa [blankI] using h
  have h1 : (c == 32) = false := beq_eq_false_iff_ne.2 (by omega)
  have h2 : (c == 9) = false := beq_eq_false_iff_ne.2 (by omega)
  clear h h'
  go_enter Try.func7, Try.ntmps7
  go_wp2
  go_ret
  exact ⟨rfl, rfl⟩

/-! ### the plain law -/
def trimL (l : List UInt8) : List UInt8 := (l.reverse.dropWhile blank).reverse
def trimB (s : ByteArray) : ByteArray := ⟨(trimL s.data.toList).toArray⟩

theorem trimL_snoc (m : List UInt8) (c : UInt8) : trimL (m ++ [c]) = if blank c then trimL m else m ++ [c] := by
  unfold trimL
  by_cases h : blank c = true
  · simp [h]
  · simp [h]

theorem byteArray_ext {a b : ByteArray} (h : a.data.toList = b.data.toList) : a = b := by
  exact ByteArray.ext (Array.ext' h)

theorem trimB_data (s : ByteArray) : (trimB s).data.toList = trimL s.data.toList := by simp [trimB]

theorem size_toList (u : ByteArray) : u.data.toList.length = u.size := Array.length_toList

theorem last_split (u : ByteArray) (h : 0 < u.size) : u.data.toList = (u.extract 0 (u.size - 1)).data.toList ++ [u[u.size - 1]] := by
  have hl := size_toList u
  rw [Lib.extract_data, List.drop_zero, Nat.sub_zero]
  have := List.take_succ_eq_append_getElem (l := u.data.toList) (i := u.size - 1) (by omega)
  rw [show u.size - 1 + 1 = u.size by omega, List.take_of_length_le (by omega)] at this
  exact this

theorem trimB_blank (u : ByteArray) (h : 0 < u.size) (hb : blank u[u.size - 1] = true) : trimB (u.extract 0 (u.size - 1)) = trimB u := by
  apply byteArray_ext
  rw [trimB_data, trimB_data, last_split u h, trimL_snoc, if_pos hb]

theorem trimB_full (u : ByteArray) (h : 0 < u.size) (hb : blank u[u.size - 1] = false) : trimB u = u := by
  apply byteArray_ext
  rw [trimB_data]
  rw [last_split u h, trimL_snoc, if_neg (by simp [hb])]

theorem trimB_none (u : ByteArray) (h : u.size = 0) : trimB u = u := by
  apply byteArray_ext
  have hl := size_toList u
  have : u.data.toList = [] := List.length_eq_zero_iff.1 (by omega)
  rw [trimB_data, this]
  rfl

theorem isEmpty_of (u : ByteArray) (h : u.size = 0) : u.toList.isEmpty = true := by
  have hl := size_toList u
  rw [Lib.toList_data, List.isEmpty_iff]
  exact List.length_eq_zero_iff.1 (by omega)

theorem isEmpty_not (u : ByteArray) (h : u.size ≠ 0) : u.toList.isEmpty = false := by
  have hl := size_toList u
  rw [Lib.toList_data]
  cases hd : u.data.toList with
  | nil => rw [hd] at hl; simp at hl; omega
  | cons a r => rfl

theorem blank_32 (c : UInt8) (h : (c.toNat : Int) = 32) : blank c = true := by
  have : c = 32 := UInt8.toNat_inj.1 (by simpa using (by omega : c.toNat = 32))
  simp [blank, this]
theorem blank_9 (c : UInt8) (h : (c.toNat : Int) = 9) : blank c = true := by
  have : c = 9 := UInt8.toNat_inj.1 (by simpa using (by omega : c.toNat = 9))
  simp [blank, this]
theorem blank_iff (c : UInt8) : blank c = blankI (c.toNat : Int) := by
  rw [Bool.eq_iff_iff]
  simp only [blank, blankI, Bool.or_eq_true, beq_iff_eq, decide_eq_true_eq]
  constructor
  · rintro (rfl | rfl) <;> simp
  · rintro (h | h)
    · exact .inl (UInt8.toNat_inj.1 (by simpa using (by omega : c.toNat = 32)))
    · exact .inr (UInt8.toNat_inj.1 (by simpa using (by omega : c.toNat = 9)))

def strSize : Value → Nat
  | .string u => u.size
  | _ => 0

set_option maxHeartbeats 400000 in
theorem trim_any (s : ByteArray) (w : World) (hs : s.size ≤ maxLen) :
    Calls Try.prog 9 #[.string s] w fun e w' => e = .returned (.string (trimB s)) ∧ w' = w := by
  unfold maxLen at hs
  go_enter Try.func9, Try.ntmps9
  go_wp2
  go_loop [0] (fun v => ∃ u : ByteArray, v = .string u ∧ u.size ≤ s.size ∧ Hid (trimB u = trimB s)) (fun v => strSize v)
  case atStart => exact ⟨s, rfl, Nat.le_refl _, rfl⟩
  case round =>
    obtain ⟨u, rfl, hu, hT⟩ := hrel
    by_cases hz : u.size = 0
    · have e := isEmpty_of u hz
      go_wp2
      go_ret
      exact ⟨by rw [← hT.out, trimB_none u hz]; rfl, rfl⟩
    · have e := isEmpty_not u hz
      have hz' : 0 < u.size := by omega
      cases hb : blank u[u.size - 1] with
      | true =>
        have HB : Hid _ := trimB_blank u hz' hb
        have hI : blankI (u[u.size - 1].toNat : Int) = true := by rw [← blank_iff]; exact hb
        clear hb
        have hI' : (u[u.size - 1].toNat : Int) = 32 ∨ (u[u.size - 1].toNat : Int) = 9 := by simpa [blankI] using hI
        clear hI
        rcases hI' with h1 | h1
        all_goals
          go_wp2
          go_round
          case rel => exact ⟨_, rfl, by simp; omega, HB.out.trans hT.out⟩
          case measure => simp [strSize]; omega
      | false =>
        have HB : Hid _ := trimB_full u hz' hb
        have hI : blankI (u[u.size - 1].toNat : Int) = false := by rw [← blank_iff]; exact hb
        have hI' : ¬ ((u[u.size - 1].toNat : Int) = 32 ∨ (u[u.size - 1].toNat : Int) = 9) := by simpa [blankI] using hI
        have h1 : ((u[u.size - 1].toNat : Int) == 32) = false := beq_eq_false_iff_ne.2 (by omega)
        have h2 : ((u[u.size - 1].toNat : Int) == 9) = false := beq_eq_false_iff_ne.2 (by omega)
        clear hb hI hI'
        go_wp2
        go_ret
        exact ⟨by rw [← hT.out, HB.out]; rfl, rfl⟩

theorem ztrim_any (s : ByteArray) (w : World) (hs : s.size ≤ maxLen) :
    Calls Try.prog 6 #[.string s] w fun e w' => e = .returned (.string (trimB s)) ∧ w' = w := by
  go_enter Try.func6, Try.ntmps6
  go_wp2_with (go_at_call 9; refine (trim_any s _ hs).mono ?_; rintro e w' ⟨rfl, rfl⟩)
  go_ret
  exact ⟨rfl, rfl⟩
end Go.Proofs.Qxb6604410a
