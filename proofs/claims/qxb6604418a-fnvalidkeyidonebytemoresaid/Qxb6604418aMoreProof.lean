/-
  The frame is the guide's (proof-skeleton.mjs); the walk is mine.
-/
import Derived.Test.Qxb6604418aRows
import Derived.Test.Qxb6604418aKeys
import Derived.Laws.IdiomStrings
import Derived.WalkKit
import Derived.ProofKit
import Derived.OpenShut
import Derived.ShutString
namespace Go.Proofs.Qxb6604418a.fnValidKeyIDOneByteMore
open Go.ChangeShapes Go.WideShapes Go.ChangeAt Go.RowKit
open Go.ChangeMaps (open_string shut_string)
set_option linter.unusedVariables false      -- a walk need not use every 'w<i>' (that an integer argument fits its kind)

theorem own : ownKnob Try.prog.godebug = none := by kernel_rfl

/-! ### THE PLAIN LAW -/
theorem validL_snoc (l : List UInt8) (c : UInt8) : validL (l ++ [c]) = ((decide (l.length = 0) || validL l) && decide (l.length < 16) && alphaB c) := by
  unfold validL
  rw [Bool.eq_iff_iff]
  simp only [List.length_append, List.length_singleton, List.all_append, List.all_cons, List.all_nil, Bool.and_true, Bool.and_eq_true, Bool.or_eq_true, decide_eq_true_eq]
  constructor
  · rintro ⟨h1, h2, h3⟩
    refine ⟨⟨?_, by omega⟩, h3⟩
    by_cases h : l.length = 0
    · exact .inl h
    · exact .inr ⟨by omega, h2⟩
  · rintro ⟨⟨h1 | ⟨h1, h2⟩, h3⟩, h4⟩
    · have : l = [] := List.length_eq_zero_iff.1 h1
      subst this
      exact ⟨by simp, by simp, h4⟩
    · exact ⟨by omega, h2, h4⟩

theorem valid_snoc (s : ByteArray) (c : UInt8) : validB (s ++ ⟨#[c]⟩) = ((decide (s.size = 0) || validB s) && decide (s.size < 16) && alpha (c.toNat : Int)) := by
  have h : (s ++ ⟨#[c]⟩ : ByteArray).data.toList = s.data.toList ++ [c] := by simp
  unfold validB
  rw [h, validL_snoc, size_toList]
  rfl

/-! ### THE WALK -/
theorem bytes10 (a0 : ByteArray) (a1 : Int) (w : World) (h : a0.size ≤ 1048576) :
    Calls Try.prog 10 #[.string a0, .int .u8 a1] w fun e w' => e = .returned (.bool true) ∧ w' = w := by
  have h1 : (a0.size : Int) ≤ 1048576 := by omega
  go_enter Try.func10, Try.ntmps10
  go_wp2
  go_ret
  exact ⟨rfl, rfl⟩

theorem valid_none : validB ⟨#[]⟩ = false := valid_size (.inl rfl)

set_option maxHeartbeats 2000000 in
theorem walk (a0 : ByteArray) (a1 : Int) (w0 : a0.size ≤ maxLen) (w1 : (Lit.int .u8 a1).wf = true) (w : World) :
    Calls Try.prog 4 #[.string a0, .int .u8 a1] w fun e w' => e = .returned (.bool true) ∧ Below w.heap.size w w' := by
  have w0' := w0
  unfold maxLen at w0'
  obtain ⟨b0, b1⟩ := bounds_u8 w1
  clear w1
  obtain ⟨u, hu⟩ : ∃ u : UInt8, (u.toNat : Int) = a1 := ⟨UInt8.ofNat a1.toNat, by rw [UInt8.toNat_ofNat']; omega⟩
  subst hu
  by_cases hsz : a0.size ≤ 1048576
  · have hsz' : (a0.size : Int) ≤ 1048576 := by omega
    have hcv : (convert 25 9 (.slice (some ⟨w.heap.size, 0, none⟩) 1 1)).run Try.prog (w.alloc (.cells #[.int .u8 (u.toNat : Int)] 5)) = .ok (.string ⟨#[u]⟩) (w.alloc (.cells #[.int .u8 (u.toNat : Int)] 5)) := by
      exact run_convert_bytes_back _ 25 9 5 ⟨w.heap.size, 0, none⟩ 1 [u] Try.underlying25 Try.underlying5 Try.underlying9 (fun j hj => by
        have : j = 0 := by simpa using hj
        subst this
        simp [Addr.add])
    have c0 := zvalid_any ⟨#[]⟩ w (Nat.zero_le _)
    rw [valid_none] at c0
    have s1 : (a0 ++ (⟨#[u]⟩ : ByteArray)).size ≤ maxLen := by
      unfold maxLen; rw [ByteArray.size_append]
      have : (⟨#[u]⟩ : ByteArray).size = 1 := rfl
      omega
    have hsum : a0.size + (⟨#[u]⟩ : ByteArray).size ≤ 1048577 := by
      have : (⟨#[u]⟩ : ByteArray).size = 1 := rfl
      omega
    have c1 := zvalid_any (a0 ++ ⟨#[u]⟩) (w.alloc (.cells #[.int .u8 (u.toNat : Int)] 5)) s1
    rw [valid_snoc] at c1
    have c2 := zvalid_any a0 (w.alloc (.cells #[.int .u8 (u.toNat : Int)] 5)) w0
    have c3 := inAlphabet_any (u.toNat : Int) (w.alloc (.cells #[.int .u8 (u.toNat : Int)] 5))
    have hB : Below w.heap.size w (w.alloc (.cells #[.int .u8 (u.toNat : Int)] 5)) := (Below.refl _ _).alloc (Nat.le_refl _) _
    go_enter Try.func4, Try.ntmps4
    go_wp2_with fail
    refine (bytes10 a0 _ w hsz).mono ?_
    rintro e w' ⟨rfl, hw⟩
    subst w'
    go_wp2_with fail
    refine c0.mono ?_
    rintro e w' ⟨rfl, hw⟩
    subst w'
    clear c0
    by_cases hz : a0.size = 0
    · have e := isEmpty_of a0 hz
      have e1 : ((decide (a0.size = 0) || validB a0) && decide (a0.size < 16) && alpha (u.toNat : Int)) = alpha (u.toNat : Int) := by rw [decide_eq_true hz, decide_eq_true (by omega : a0.size < 16)]; simp
      rw [e1] at c1
      clear e1
      go_wp2_with fail
      refine c3.mono ?_
      rintro e w' ⟨rfl, hw⟩
      subst w'
      go_wp2_with fail
      refine c1.mono ?_
      rintro e w' ⟨rfl, hw⟩
      subst w'
      go_wp2
      go_ret
      exact ⟨rfl, hB⟩
    · have e := isEmpty_not a0 hz
      cases hv : validB a0 with
      | true =>
        by_cases h16 : a0.size < 16
        · have e1 : ((decide (a0.size = 0) || validB a0) && decide (a0.size < 16) && alpha (u.toNat : Int)) = alpha (u.toNat : Int) := by rw [hv, decide_eq_true h16]; simp
          rw [e1] at c1
          rw [hv] at c2
          have h16' : (a0.size : Int) < 16 := by omega
          clear e1 hv
          go_wp2_with fail
          refine c2.mono ?_
          rintro e w' ⟨rfl, hw⟩
          subst w'
          go_wp2_with fail
          refine c3.mono ?_
          rintro e w' ⟨rfl, hw⟩
          subst w'
          go_wp2_with fail
          refine c1.mono ?_
          rintro e w' ⟨rfl, hw⟩
          subst w'
          go_wp2
          go_ret
          exact ⟨rfl, hB⟩
        · have e1 : ((decide (a0.size = 0) || validB a0) && decide (a0.size < 16) && alpha (u.toNat : Int)) = false := by rw [hv, decide_eq_false h16]; simp
          rw [e1] at c1
          rw [hv] at c2
          have h16' : decide ((a0.size : Int) < 16) = false := decide_eq_false (by omega)
          clear e1 hv
          go_wp2_with fail
          refine c2.mono ?_
          rintro e w' ⟨rfl, hw⟩
          subst w'
          go_wp2_with fail
          refine c1.mono ?_
          rintro e w' ⟨rfl, hw⟩
          subst w'
          go_wp2
          go_ret
          exact ⟨rfl, hB⟩
      | false =>
        have e1 : ((decide (a0.size = 0) || validB a0) && decide (a0.size < 16) && alpha (u.toNat : Int)) = false := by rw [hv, decide_eq_false hz]; simp
        rw [e1] at c1
        rw [hv] at c2
        clear e1 hv
        go_wp2_with fail
        refine c2.mono ?_
        rintro e w' ⟨rfl, hw⟩
        subst w'
        go_wp2_with fail
        refine c1.mono ?_
        rintro e w' ⟨rfl, hw⟩
        subst w'
        go_wp2
        go_ret
        exact ⟨rfl, hB⟩
  · have hsz' : ¬ (a0.size : Int) ≤ 1048576 := by omega
    go_enter Try.func4, Try.ntmps4
    go_wp2
    go_ret
    exact ⟨rfl, Below.refl _ _⟩

/-! ### THE ROW's STEP: WRITTEN OUT: LEAVE IT -/
set_option maxRecDepth 100000 in
theorem lifted (os : Os) (started : os.Started) (H : Type) (enc : TypeId × Value → H) :
    ReturnsInHanded {} Try.checked os 4 .any (Rows.fnValidKeyIDOneByteMoreSpec.pre6 enc Try.prog Try.f4 Rows.fnValidKeyIDOneByteMoreRow.domain false) (Rows.fnValidKeyIDOneByteMoreSpec.post enc Try.prog Try.f4 false true false false) := by
  refine returnsInHanded_of_change (C := Try.checked) own started (by kernel_rfl) Try.func4
    (ChangeSpec.witness6 (enc := enc) (C := Try.checked) false ⟨#[], #[.string ByteArray.empty, .int .u8 0], []⟩ 8 (by kernel_rfl) (by kernel_rfl) (by kernel_rfl) (by kernel_rfl)) ?_
  intro W base args ds gs before hval0 hW hcnd _
  have hval : ∀ (j : Nat) t v, Try.f4.params[j]? = some t → args[j]? = some v → Value.okWide Try.prog W .any base t v := hval0
  have hW' := hW
  obtain ⟨p, q, hA0, hV, rfl, hfz, hnd⟩ := hW
  have hA : DataW.TrodAll enc Try.prog W 0 (fun _ => true) true Try.f4.params.toList args.toList ds p := hA0
  rw [Try.params4] at hA hval
  obtain ⟨v0, vs0, d0, ds0, p0, q0, hargs, rfl, rfl, h0, r0⟩ := trodAll_cons hA
  obtain ⟨v1, vs1, d1, ds1, p1, q1, rfl, rfl, rfl, h1, r1⟩ := trodAll_cons r0
  obtain ⟨rfl, rfl, rfl⟩ := trodAll_nil r1
  obtain rfl : args = #[v0, v1] := by cases args; simp_all
  obtain ⟨rfl, rfl⟩ := trodVars_none hV
  obtain ⟨a0, rfl, rfl, rfl, w0⟩ := open_string Try.underlying9 (hval 0 9 v0 rfl rfl) h0
  obtain ⟨a1, rfl, rfl, rfl, w1⟩ := open_int Try.underlying5 (hval 1 5 v1 rfl rfl) h1
  clear hA0 hval0
  simp only [List.append_nil] at hW'
  refine (walk a0 a1 w0 w1 W).mono fun e W' ⟨he, bel⟩ => ?_
  subst he
  exact ⟨_, rfl, _, _, _, [], _, [], hW', trodAll_mk1 (shut_bool Try.underlying4 _), (trodAll_cons_mk (shut_string Try.underlying9 w0) (trodAll_cons_mk (shut_int Try.underlying5 w1) trodAll_mk0)), rfl, bel.frame _, fun h => by cases h⟩

theorem over : Rows.fnValidKeyIDOneByteMoreRow.holds Try.pinned (OpenSpec.ofChange Rows.fnValidKeyIDOneByteMoreSpec) :=
  OpenClaim.holds_of_wide 4 Try.f4 rfl rfl rfl rfl rfl rfl rfl ⟨rfl, rfl, rfl, rfl, rfl⟩ rfl rfl rfl rfl rfl (by kernel_rfl) Try.func4 (by kernel_rfl)
    (of_decide_eq_true (by kernel_rfl)) (by unfold Func.isWrapper; first | (rw [if_pos (by decide +kernel)]; kernel_rfl) | (rw [if_neg (by decide +kernel)]; exact ⟨rfl, rfl⟩))
    (fun os started H enc _ => lifted os started H enc)

/-- THE STATEMENT -/
theorem proved : Rows.FnValidKeyIDOneByteMoreSaid :=
  over
#print axioms proved
end Go.Proofs.Qxb6604418a.fnValidKeyIDOneByteMore
