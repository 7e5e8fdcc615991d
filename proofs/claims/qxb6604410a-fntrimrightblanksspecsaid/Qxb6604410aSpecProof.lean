/-
  The frame is the guide's (proof-skeleton.mjs); the walk is mine.
-/
import Derived.Test.Qxb6604410aRows
import Derived.Test.Qxb6604410aPlain
import Derived.WalkKit
import Derived.ProofKit
import Derived.OpenShut
import Derived.ShutString
namespace Go.Proofs.Qxb6604410a.fnTrimRightBlanksSpec
open Go.ChangeShapes Go.WideShapes Go.ChangeAt Go.RowKit
open Go.ChangeMaps (open_string shut_string)
set_option linter.unusedVariables false      -- a walk need not use every 'w<i>' (that an integer argument fits its kind)

theorem own : ownKnob Try.prog.godebug = none := by kernel_rfl

/-! ### THE WALK -/
theorem trimL_split (l : List UInt8) : ∃ t, l = trimL l ++ t ∧ ∀ c ∈ t, blank c = true := by
  refine ⟨(l.reverse.takeWhile blank).reverse, ?_, fun c hc => ?_⟩
  · unfold trimL
    rw [← List.reverse_append, List.takeWhile_append_dropWhile, List.reverse_reverse]
  · have := List.mem_reverse.1 hc
    exact (List.all_eq_true.1 (List.all_takeWhile)) c this
theorem trimL_last (l m : List UInt8) (c : UInt8) (h : trimL l = m ++ [c]) : blank c = false := by
  have h' : l.reverse.dropWhile blank = c :: m.reverse := by
    have := congrArg List.reverse h
    simpa [trimL] using this
  have hne : l.reverse.dropWhile blank ≠ [] := by rw [h']; simp
  have := List.head_dropWhile_not blank hne
  simp only [h', List.head_cons] at this
  simpa using this

theorem t_size (s : ByteArray) : (trimB s).size ≤ s.size := by
  obtain ⟨t, ht, _⟩ := trimL_split s.data.toList
  have h1 := size_toList s
  have h2 := size_toList (trimB s)
  rw [trimB_data] at h2
  have := congrArg List.length ht
  rw [List.length_append] at this
  omega
theorem t_pre (s : ByteArray) : ((s.extract 0 (trimB s).size).toList == (trimB s).toList) = true := by
  obtain ⟨t, ht, _⟩ := trimL_split s.data.toList
  have h2 := size_toList (trimB s)
  rw [trimB_data] at h2
  rw [beq_iff_eq, Lib.extract_toList, Lib.toList_data, trimB_data, List.drop_zero, Nat.sub_zero, ← h2]
  have h3 : ∀ l m t : List UInt8, l = m ++ t → l.take m.length = m := by rintro l m t rfl; simp
  exact h3 _ _ _ ht
theorem t_rest (s : ByteArray) (i : Nat) (h : i < s.size) (ht : (trimB s).size ≤ i) : blank s[i] = true := by
  obtain ⟨t, e, hb⟩ := trimL_split s.data.toList
  have h1 := size_toList s
  have h2 := size_toList (trimB s)
  rw [trimB_data] at h2
  have hi : s.data.toList[i]? = some s[i] := List.getElem?_eq_getElem (by omega)
  rw [e, List.getElem?_append_right (by omega)] at hi
  exact hb _ (List.mem_of_getElem? hi)
theorem t_last (s : ByteArray) (h : 0 < (trimB s).size) : blank (trimB s)[(trimB s).size - 1] = false := by
  have := last_split (trimB s) h
  rw [trimB_data s] at this
  exact trimL_last _ _ _ this

set_option maxHeartbeats 1000000 in
theorem walk (a0 : ByteArray) (w0 : a0.size ≤ maxLen) (w : World) :
    Calls Try.prog 3 #[.string a0] w fun e w' => e = .returned (.bool true) ∧ Grown w w' := by
  have w0' := w0
  unfold maxLen at w0'
  have h1 := t_size a0
  have h2 := t_pre a0
  have h1d : ¬ a0.size < (trimB a0).size := by omega
  by_cases hsz : a0.size ≤ 1048576
  · have hsz' : (a0.size : Int) ≤ 1048576 := by omega
    go_enter Try.func3, Try.ntmps3
    go_wp2_with (first | (go_at_call 6; refine (ztrim_any a0 _ w0).mono ?_; rintro e w' ⟨rfl, hw⟩; subst w') | go_in)
    go_loopw [5] (fun i wr => ∃ k : Nat, k ≤ a0.size ∧ (trimB a0).size ≤ k ∧ i = .int .i64 k ∧ wr = w) (fun i _ => a0.size - (intOf i).toNat)
    case atStart => exact ⟨_, h1, Nat.le_refl _, rfl, rfl⟩
    case round =>
      obtain ⟨k, hk, hk2, rfl, hwr⟩ := hrel
      subst wr
      by_cases hlt : k < a0.size
      · have hb : blankI (a0[k].toNat : Int) = true := by rw [← blank_iff]; exact t_rest a0 k hlt hk2
        have HB : Hid _ := hb
        clear hb
        go_wp2_with (go_at_call 7; refine (isBlank_yes _ _ HB.out).mono ?_; rintro e w' ⟨rfl, hw⟩; subst w')
        go_roundw
        case rel => exact ⟨k + 1, by omega, by omega, by go_num, trivial⟩
        case measure => simp [intOf]; omega
      · by_cases hz : (trimB a0).size = 0
        · have hz1 : (((trimB a0).size : Int) == 0) = true := by rw [hz]; rfl
          go_wp2
          go_ret
          exact ⟨rfl, Grown.refl _⟩
        · have hz1 : (((trimB a0).size : Int) == 0) = false := beq_eq_false_iff_ne.2 (by omega)
          have hp : 0 < (trimB a0).size := by omega
          have hb : blankI ((trimB a0)[(trimB a0).size - 1].toNat : Int) = false := by rw [← blank_iff]; exact t_last a0 hp
          have HB : Hid _ := hb
          clear hb
          go_wp2_with (go_at_call 7; refine (isBlank_no _ _ HB.out).mono ?_; rintro e w' ⟨rfl, hw⟩; subst w')
          go_ret
          exact ⟨rfl, Grown.refl _⟩
  · have hsz' : ¬ (a0.size : Int) ≤ 1048576 := by omega
    go_enter Try.func3, Try.ntmps3
    go_wp2
    go_ret
    exact ⟨rfl, Grown.refl _⟩

/-! ### THE ROW's STEP: WRITTEN OUT: LEAVE IT -/
set_option maxRecDepth 100000 in
theorem lifted (os : Os) (started : os.Started) (H : Type) (enc : TypeId × Value → H) :
    ReturnsInHanded {} Try.checked os 3 .any (Rows.fnTrimRightBlanksSpecSpec.pre6 enc Try.prog Try.f3 Rows.fnTrimRightBlanksSpecRow.domain false) (Rows.fnTrimRightBlanksSpecSpec.post enc Try.prog Try.f3 false true false false) := by
  refine returnsInHanded_of_change (C := Try.checked) own started (by kernel_rfl) Try.func3
    (ChangeSpec.witness6 (enc := enc) (C := Try.checked) false ⟨#[], #[.string ByteArray.empty], []⟩ 8 (by kernel_rfl) (by kernel_rfl) (by kernel_rfl) (by kernel_rfl)) ?_
  intro W base args ds gs before hval0 hW hcnd _
  have hval : ∀ (j : Nat) t v, Try.f3.params[j]? = some t → args[j]? = some v → Value.okWide Try.prog W .any base t v := hval0
  have hW' := hW
  obtain ⟨p, q, hA0, hV, rfl, hfz, hnd⟩ := hW
  have hA : DataW.TrodAll enc Try.prog W 0 (fun _ => true) true Try.f3.params.toList args.toList ds p := hA0
  rw [Try.params3] at hA hval
  obtain ⟨v0, vs0, d0, ds0, p0, q0, hargs, rfl, rfl, h0, r0⟩ := trodAll_cons hA
  obtain ⟨rfl, rfl, rfl⟩ := trodAll_nil r0
  obtain rfl : args = #[v0] := by cases args; simp_all
  obtain ⟨rfl, rfl⟩ := trodVars_none hV
  obtain ⟨a0, rfl, rfl, rfl, w0⟩ := open_string Try.underlying9 (hval 0 9 v0 rfl rfl) h0
  clear hA0 hval0
  simp only [List.append_nil] at hW'
  refine (walk a0 w0 W).mono fun e W' ⟨he, hg⟩ => ?_
  subst he
  exact ⟨_, rfl, post_of_same (pa := []) (pv := []) hW' (fun _ _ _ => (trodAll_cons_mk (shut_bool Try.underlying4 _) trodAll_mk0)) (fun sp _ => (trodAll_cons_mk (shut_string Try.underlying9 w0) trodAll_mk0)) (fun _ _ => rfl) rfl
    (hg.frame _) hg.2.1 (ok_one (by kernel_rfl) rfl (okWide_bool_mk Try.underlying4 _))⟩

theorem over : Rows.fnTrimRightBlanksSpecRow.holds Try.pinned (OpenSpec.ofChange Rows.fnTrimRightBlanksSpecSpec) :=
  OpenClaim.holds_of_wide 3 Try.f3 rfl rfl rfl rfl rfl rfl rfl ⟨rfl, rfl, rfl, rfl, rfl⟩ rfl rfl rfl rfl rfl (by kernel_rfl) Try.func3 (by kernel_rfl)
    (of_decide_eq_true (by kernel_rfl)) (by unfold Func.isWrapper; first | (rw [if_pos (by decide +kernel)]; kernel_rfl) | (rw [if_neg (by decide +kernel)]; exact ⟨rfl, rfl⟩))
    (fun os started H enc _ => lifted os started H enc)

/-- THE STATEMENT -/
theorem proved : Rows.FnTrimRightBlanksSpecSaid :=
  over
#print axioms proved
end Go.Proofs.Qxb6604410a.fnTrimRightBlanksSpec
