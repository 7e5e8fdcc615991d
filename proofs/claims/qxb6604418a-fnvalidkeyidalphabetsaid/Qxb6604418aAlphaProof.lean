/-
  The frame is the guide's (proof-skeleton.mjs); the walk is mine.
-/
import Derived.Test.Qxb6604418aRows
import Derived.Test.Qxb6604418aKeys
import Derived.WalkKit
import Derived.ProofKit
import Derived.OpenShut
import Derived.ShutString
namespace Go.Proofs.Qxb6604418a.fnValidKeyIDAlphabet
open Go.ChangeShapes Go.WideShapes Go.ChangeAt Go.RowKit
open Go.ChangeMaps (open_string shut_string)
set_option linter.unusedVariables false      -- a walk need not use every 'w<i>' (that an integer argument fits its kind)

theorem own : ownKnob Try.prog.godebug = none := by kernel_rfl

/-! ### THE PLAIN LAW -/
def cnt (l : List UInt8) : Int := ((l.filter alphaB).length : Int)
theorem cnt_le (l : List UInt8) : 0 ≤ cnt l ∧ cnt l ≤ l.length := by
  unfold cnt
  have := List.length_filter_le alphaB l
  omega
theorem cnt_hit (s : ByteArray) (k : Nat) (h : k < s.size) (hc : alphaB s[k] = true) : cnt (s.data.toList.take (k + 1)) = cnt (s.data.toList.take k) + 1 := by
  rw [take_snoc s k h]
  simp [cnt, List.filter_append, hc]
theorem cnt_miss (s : ByteArray) (k : Nat) (h : k < s.size) (hc : alphaB s[k] = false) : cnt (s.data.toList.take (k + 1)) = cnt (s.data.toList.take k) := by
  rw [take_snoc s k h]
  simp [cnt, List.filter_append, hc]
theorem cnt_all (l : List UInt8) : (cnt l == (l.length : Int)) = l.all alphaB := by
  rw [Bool.eq_iff_iff, beq_iff_eq, List.all_eq_true]
  unfold cnt
  constructor
  · intro h
    have h' : (l.filter alphaB).length = l.length := by omega
    exact List.length_filter_eq_length_iff.1 h'
  · intro h
    have h' := List.length_filter_eq_length_iff.2 h
    omega
theorem valid_cnt (s : ByteArray) (h0 : 1 ≤ s.size) (h1 : s.size ≤ 16) : validB s = (cnt s.data.toList == (s.size : Int)) := by
  have hl := size_toList s
  rw [← hl, cnt_all]
  unfold validB validL
  rw [decide_eq_true (by omega)]
  rfl

/-! ### THE WALK -/
theorem ret_int {k : IntKind} {a b : Int} (h : a = b) : Ending.returned (.int k a) = .returned (.int k b) := by rw [h]

set_option maxHeartbeats 1000000 in
theorem count_any (s : ByteArray) (w : World) (hs : s.size ≤ maxLen) :
    Calls Try.prog 8 #[.string s] w fun e w' => e = .returned (.int .i64 (cnt s.data.toList)) ∧ w' = w := by
  unfold maxLen at hs
  go_enter Try.func8, Try.ntmps8
  go_wp2
  go_loopw [3, 4] (fun n i wr => ∃ k : Nat, k ≤ s.size ∧ i = .int .i64 k ∧ n = .int .i64 (cnt (s.data.toList.take k)) ∧ wr = w) (fun _ i _ => s.size - (intOf i).toNat)
  case atStart => exact ⟨0, Nat.zero_le _, rfl, rfl, rfl⟩
  case round =>
    obtain ⟨k, hk, rfl, rfl, hwr⟩ := hrel
    subst wr
    have hd := cnt_le (s.data.toList.take k)
    have hl : (s.data.toList.take k).length ≤ k := List.length_take_le _ _
    by_cases hlt : k < s.size
    · have c := inAlphabet_any (s[k].toNat : Int) w
      cases ha : alphaB s[k] with
      | true =>
        have HS : Hid _ := cnt_hit s k hlt ha
        have ha' : alpha (s[k].toNat : Int) = true := ha
        rw [ha'] at c
        clear ha ha'
        go_wp2_with (go_at_call 11; refine c.mono ?_; rintro e w' ⟨rfl, hw⟩; subst w')
        go_roundw
        case rel => exact ⟨k + 1, by omega, by go_num, by rw [HS.out], trivial⟩
        case measure => simp [intOf]; omega
      | false =>
        have HS : Hid _ := cnt_miss s k hlt ha
        have ha' : alpha (s[k].toNat : Int) = false := ha
        rw [ha'] at c
        clear ha ha'
        go_wp2_with (go_at_call 11; refine c.mono ?_; rintro e w' ⟨rfl, hw⟩; subst w')
        go_roundw
        case rel => exact ⟨k + 1, by omega, by go_num, by rw [HS.out], trivial⟩
        case measure => simp [intOf]; omega
    · have hks : k = s.size := by omega
      have e1 : s.data.toList.take k = s.data.toList := List.take_of_length_le (by rw [size_toList]; omega)
      have E1 : Hid _ := e1
      clear e1 hks
      go_wp2
      go_ret
      exact ⟨ret_int (by rw [E1.out]), rfl⟩

theorem bytes7 (a0 : ByteArray) (w : World) (h : a0.size ≤ 1048576) :
    Calls Try.prog 7 #[.string a0] w fun e w' => e = .returned (.bool true) ∧ w' = w := by
  have h1 : (a0.size : Int) ≤ 1048576 := by omega
  go_enter Try.func7, Try.ntmps7
  go_wp2
  go_ret
  exact ⟨rfl, rfl⟩

set_option maxHeartbeats 1000000 in
theorem walk (a0 : ByteArray) (w0 : a0.size ≤ maxLen) (w : World) :
    Calls Try.prog 3 #[.string a0] w fun e w' => e = .returned (.bool true) ∧ Grown w w' := by
  have w0' := w0
  unfold maxLen at w0'
  have c1 := zvalid_any a0 w w0
  have c2 := count_any a0 w w0
  by_cases hsz : a0.size ≤ 1048576
  · have hsz' : (a0.size : Int) ≤ 1048576 := by omega
    by_cases h1 : 1 ≤ a0.size
    · have h1' : (1 : Int) ≤ (a0.size : Int) := by omega
      by_cases h16 : a0.size ≤ 16
      · have h16' : (a0.size : Int) ≤ 16 := by omega
        rw [valid_cnt a0 h1 h16] at c1
        go_enter Try.func3, Try.ntmps3
        go_wp2_with fail
        refine (bytes7 a0 w hsz).mono ?_
        rintro e w' ⟨rfl, hw⟩
        subst w'
        go_wp2_with fail
        refine c2.mono ?_
        rintro e w' ⟨rfl, hw⟩
        subst w'
        go_wp2_with fail
        refine c1.mono ?_
        rintro e w' ⟨rfl, hw⟩
        subst w'
        go_wp2
        go_ret
        exact ⟨rfl, Grown.refl _⟩
      · have h16' : decide ((a0.size : Int) ≤ 16) = false := decide_eq_false (by omega)
        rw [valid_size (.inr (by omega))] at c1
        go_enter Try.func3, Try.ntmps3
        go_wp2_with fail
        refine (bytes7 a0 w hsz).mono ?_
        rintro e w' ⟨rfl, hw⟩
        subst w'
        go_wp2_with fail
        refine c1.mono ?_
        rintro e w' ⟨rfl, hw⟩
        subst w'
        go_wp2
        go_ret
        exact ⟨rfl, Grown.refl _⟩
    · have h1' : decide ((1 : Int) ≤ (a0.size : Int)) = false := decide_eq_false (by omega)
      rw [valid_size (.inl (by omega))] at c1
      go_enter Try.func3, Try.ntmps3
      go_wp2_with fail
      refine (bytes7 a0 w hsz).mono ?_
      rintro e w' ⟨rfl, hw⟩
      subst w'
      go_wp2_with fail
      refine c1.mono ?_
      rintro e w' ⟨rfl, hw⟩
      subst w'
      go_wp2
      go_ret
      exact ⟨rfl, Grown.refl _⟩
  · have hsz' : ¬ (a0.size : Int) ≤ 1048576 := by omega
    go_enter Try.func3, Try.ntmps3
    go_wp2
    go_ret
    exact ⟨rfl, Grown.refl _⟩

/-! ### THE ROW's STEP: WRITTEN OUT: LEAVE IT -/
set_option maxRecDepth 100000 in
theorem lifted (os : Os) (started : os.Started) (H : Type) (enc : TypeId × Value → H) :
    ReturnsInHanded {} Try.checked os 3 .any (Rows.fnValidKeyIDAlphabetSpec.pre6 enc Try.prog Try.f3 Rows.fnValidKeyIDAlphabetRow.domain false) (Rows.fnValidKeyIDAlphabetSpec.post enc Try.prog Try.f3 false true false false) := by
  refine returnsInHanded_of_change (C := Try.checked) own started (by kernel_rfl) Try.func3
    (ChangeSpec.witness6 (enc := enc) (C := Try.checked) false ⟨#[], #[.string ByteArray.empty], []⟩ 8 (by kernel_rfl) (by kernel_rfl) (by kernel_rfl) (by kernel_rfl)) ?_
  intro W base args ds gs before hval0 hW hcnd _
  have hval : ∀ (j : Nat) t v, Try.f3.params[j]? = some t → args[j]? = some v → Value.okWide Try.prog W .any base t v := hval0
  have hW' := hW
  obtain ⟨p, q, hA0, hV, rfl, hfz, hnd⟩ := hW
  have hA : DataW.TrodAll enc Try.prog W 0 (fun _ => true) true Try.f3.params.toList args.toList ds p := hA0
  rw [Try.params3] at hA hval
  obtain ⟨v0, vs0, d0, ds0, p0, q0, hargs, rfl, rfl, h0, r0⟩ := trodAll_cons hA
  obtain ⟨rfl, rfl, rfl⟩ := trodAll_nil r0
  obtain rfl : args = #[v0] := by cases args; simp_all
  obtain ⟨rfl, rfl⟩ := trodVars_none hV
  obtain ⟨a0, rfl, rfl, rfl, w0⟩ := open_string Try.underlying9 (hval 0 9 v0 rfl rfl) h0
  clear hA0 hval0
  simp only [List.append_nil] at hW'
  refine (walk a0 w0 W).mono fun e W' ⟨he, hg⟩ => ?_
  subst he
  exact ⟨_, rfl, post_of_same (pa := []) (pv := []) hW' (fun _ _ _ => (trodAll_cons_mk (shut_bool Try.underlying4 _) trodAll_mk0)) (fun sp _ => (trodAll_cons_mk (shut_string Try.underlying9 w0) trodAll_mk0)) (fun _ _ => rfl) rfl
    (hg.frame _) hg.2.1 (ok_one (by kernel_rfl) rfl (okWide_bool_mk Try.underlying4 _))⟩

theorem over : Rows.fnValidKeyIDAlphabetRow.holds Try.pinned (OpenSpec.ofChange Rows.fnValidKeyIDAlphabetSpec) :=
  OpenClaim.holds_of_wide 3 Try.f3 rfl rfl rfl rfl rfl rfl rfl ⟨rfl, rfl, rfl, rfl, rfl⟩ rfl rfl rfl rfl rfl (by kernel_rfl) Try.func3 (by kernel_rfl)
    (of_decide_eq_true (by kernel_rfl)) (by unfold Func.isWrapper; first | (rw [if_pos (by decide +kernel)]; kernel_rfl) | (rw [if_neg (by decide +kernel)]; exact ⟨rfl, rfl⟩))
    (fun os started H enc _ => lifted os started H enc)

/-- THE STATEMENT -/
theorem proved : Rows.FnValidKeyIDAlphabetSaid :=
  over
#print axioms proved
end Go.Proofs.Qxb6604418a.fnValidKeyIDAlphabet
