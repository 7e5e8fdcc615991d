/-
  The frame is the guide's (proof-skeleton.mjs); the walk is mine.
-/
import Derived.Test.Qxb6604410aRows
import Derived.Test.Qxb6604410aPlain
import Derived.Deep.OwnRows
import Derived.Laws.IdiomStrings
import Derived.WalkKit
import Derived.ProofKit
import Derived.OpenShut
import Derived.ShutString
namespace Go.Proofs.Qxb6604410a.fnTrimRightBlanksAppend
open Go.ChangeShapes Go.WideShapes Go.ChangeAt Go.RowKit
open Go.ChangeMaps (open_string shut_string)
set_option linter.unusedVariables false      -- a walk need not use every 'w<i>' (that an integer argument fits its kind)

theorem own : ownKnob Try.prog.godebug = none := by kernel_rfl

/-! ### THE PLAIN LAW -/
theorem trimL_app (l t : List UInt8) (h : ∀ c ∈ t, blank c = true) : trimL (l ++ t) = trimL l := by
  unfold trimL
  rw [List.reverse_append, List.dropWhile_append_of_pos (fun c hc => h c (List.mem_reverse.1 hc))]

theorem data_append (a b : ByteArray) : (a ++ b).data.toList = a.data.toList ++ b.data.toList := by simp

theorem trim_app (s t : ByteArray) (h : ∀ c ∈ t.data.toList, blank c = true) : trimB (s ++ t) = trimB s := by
  apply byteArray_ext
  rw [trimB_data, trimB_data, data_append, trimL_app _ _ h]

theorem trimL_keep (l : List UInt8) (c : UInt8) (h : blank c = false) : trimL (l ++ [c]) = l ++ [c] := by
  rw [trimL_snoc, if_neg (by simp [h])]

theorem trim_x (s : ByteArray) : trimB (({ data := #[9, 32] } ++ s) ++ { data := #[120] }) = ({ data := #[9, 32] } ++ s) ++ { data := #[120] } := by
  apply byteArray_ext
  rw [trimB_data, data_append]
  exact trimL_keep _ 120 rfl

theorem trim_trim (s : ByteArray) : trimB (trimB s) = trimB s := by
  by_cases h : (trimB s).size = 0
  · exact trimB_none _ h
  · have hp : 0 < (trimB s).size := by omega
    refine trimB_full _ hp ?_
    have hl := last_split (trimB s) hp
    rw [trimB_data s] at hl
    have h' : s.data.toList.reverse.dropWhile blank = (trimB s)[(trimB s).size - 1] :: (((trimB s).extract 0 ((trimB s).size - 1)).data.toList).reverse := by
      have := congrArg List.reverse hl
      simpa [trimL] using this
    have hne : s.data.toList.reverse.dropWhile blank ≠ [] := by rw [h']; simp
    have := List.head_dropWhile_not blank hne
    simp only [h', List.head_cons] at this
    simpa using this

theorem trimL_split (l : List UInt8) : ∃ t, l = trimL l ++ t := by
  refine ⟨(l.reverse.takeWhile blank).reverse, ?_⟩
  unfold trimL
  rw [← List.reverse_append, List.takeWhile_append_dropWhile, List.reverse_reverse]
theorem t_size (s : ByteArray) : (trimB s).size ≤ s.size := by
  obtain ⟨t, ht⟩ := trimL_split s.data.toList
  have h1 := size_toList s
  have h2 := size_toList (trimB s)
  rw [trimB_data] at h2
  have := congrArg List.length ht
  rw [List.length_append] at this
  omega
theorem size_pad (a : ByteArray) : (a ++ ({ data := #[32, 9, 32, 9] } : ByteArray)).size = a.size + 4 := by rw [ByteArray.size_append]; rfl
theorem size_x (a : ByteArray) : (({ data := #[9, 32] } ++ a) ++ ({ data := #[120] } : ByteArray)).size = a.size + 3 := by
  rw [ByteArray.size_append, ByteArray.size_append]
  have h1 : ({ data := #[9, 32] } : ByteArray).size = 2 := rfl
  have h2 : ({ data := #[120] } : ByteArray).size = 1 := rfl
  omega

/-! ### THE WALK -/
theorem Try.info5 : (Try.prog.info? 5).map (fun i => (i.zero, i.size, i.bytes)) = some (some (.int .u8 0), 1, 1) := by kernel_rfl

theorem bytes8 (a0 a1 : ByteArray) (w : World) (h : a0.size + a1.size ≤ 1048576) :
    Calls Try.prog 8 #[.string a0, .string a1] w fun e w' => e = .returned (.bool true) ∧ w' = w := by
  have h1 : (a0.size : Int) ≤ 1048576 := by omega
  have h2 : (a1.size : Int) ≤ 1048576 := by omega
  have h3 : (a0.size : Int) + (a1.size : Int) ≤ 1048576 := by omega
  go_enter Try.func8, Try.ntmps8
  go_wp2
  go_ret
  exact ⟨rfl, rfl⟩

/-- the row of blanks, its first k bytes laid -/
def Laid (f : Nat → Value) (k : Nat) : Prop := ∃ l : List UInt8, l.length = k ∧ (∀ c ∈ l, blank c = true) ∧ ∀ j (hj : j < l.length), f j = .int .u8 (l[j].toNat : Int)

theorem laid_step {wr : World} {B n k : Nat} {f : Nat → Value} (hr : wr.rowIs B 5 n f) (h : Laid f k) (c : UInt8) (hc : blank c = true) :
    ∃ f', (wr.setCell ⟨B, k, none⟩ (.int .u8 (c.toNat : Int))).rowIs B 5 n f' ∧ Laid f' (k + 1) := by
  obtain ⟨l, hl, hb, hf⟩ := h
  refine ⟨_, hr.set k _, l ++ [c], by simp [hl], ?_, ?_⟩
  · intro a ha
    rcases List.mem_append.1 ha with h | h
    · exact hb a h
    · simp at h; subst h; exact hc
  · intro j hj
    simp at hj
    by_cases e : j = k
    · subst e
      simp [hl]
    · have hjl : j < l.length := by omega
      simp only [if_neg e]
      rw [hf j hjl, List.getElem_append_left hjl]

set_option maxHeartbeats 2000000 in
theorem walk (a0 : ByteArray) (a1 : ByteArray) (w0 : a0.size ≤ maxLen) (w1 : a1.size ≤ maxLen) (w : World) :
    Calls Try.prog 4 #[.string a0, .string a1] w fun e w' => e = .returned (.bool true) ∧ Below w.heap.size w w' := by
  have w0' := w0
  have w1' := w1
  unfold maxLen at w0' w1'
  by_cases hsz : a0.size + a1.size ≤ 1048576
  · have hmk := run_make_row' (P := Try.prog) 26 5 (.int .u8 0) 1 Try.underlying26 Try.info5 rfl .i64 .i64 a1.size (by omega) (by omega)
    have hsz' : (a0.size : Int) + (a1.size : Int) ≤ 1048576 := by omega
    go_enter Try.func4, Try.ntmps4
    go_wp2_with fail
    refine (bytes8 a0 a1 w hsz).mono ?_
    rintro e w' ⟨rfl, hw⟩
    subst w'
    go_wp2_with fail
    refine (ztrim_any a0 w w0).mono ?_
    rintro e w' ⟨rfl, hw⟩
    subst w'
    go_wp2
    go_loopw [7] (fun i wr => ∃ k : Nat, k ≤ a1.size ∧ i = .int .i64 k ∧ (∃ f, wr.rowIs w.heap.size 5 a1.size f ∧ Laid f k) ∧ Below w.heap.size w wr) (fun i _ => a1.size - (intOf i).toNat)
    case atStart => exact ⟨0, Nat.zero_le _, rfl, ⟨_, World.rowIs_made _ _ _ _, [], rfl, by simp, fun j hj => absurd hj (Nat.not_lt_zero _)⟩, (Below.refl _ _).alloc (Nat.le_refl _) _⟩
    case round =>
      obtain ⟨k, hk, rfl, ⟨f, hrow, hlaid⟩, hbel⟩ := hrel
      by_cases hlt : k < a1.size
      · have hc2 := hrow.cell hlt
        have hc3 := hrow.frozen k
        have R32 : Hid _ := laid_step hrow hlaid 32 rfl
        have R9 : Hid _ := laid_step hrow hlaid 9 rfl
        clear hlaid
        go_wp2
        · go_roundw
          case rel => exact ⟨k + 1, by omega, by go_num, R32.out, hbel.setCell (Nat.le_refl _) _⟩
          case measure => simp [intOf]; omega
        · go_roundw
          case rel => exact ⟨k + 1, by omega, by go_num, R9.out, hbel.setCell (Nat.le_refl _) _⟩
          case measure => simp [intOf]; omega
      · obtain ⟨l, hl, hb, hf⟩ := hlaid
        have hkk : l.length = a1.size := by omega
        obtain ⟨bl, hbl⟩ : ∃ bl : ByteArray, bl = ⟨l.toArray⟩ := ⟨_, rfl⟩
        have hcv : (convert 26 9 (.slice (some ⟨w.heap.size, 0, none⟩) a1.size a1.size)).run Try.prog wr = .ok (.string bl) wr := by
          rw [hbl, ← hkk]
          exact run_convert_bytes_back wr 26 9 5 ⟨w.heap.size, 0, none⟩ l.length l Try.underlying26 Try.underlying5 Try.underlying9 (fun j hj => by
            rw [add_plain, Nat.zero_add, hrow.cell (by omega), hf j hj])
        have hblz : bl.size = a1.size := by rw [hbl, ← hkk]; rfl
        have hz1 : a0.size + bl.size ≤ 1048576 := by omega
        have hbb : ∀ c ∈ bl.data.toList, blank c = true := by rw [hbl]; simpa using hb
        have t1 := trim_app a0 bl hbb
        have t2 := trim_app a0 { data := #[32, 9, 32, 9] } (by decide)
        have t3 := trim_x a0
        have t4 := trim_trim a0
        have s1 : (a0 ++ bl).size ≤ maxLen := by unfold maxLen; rw [ByteArray.size_append]; omega
        have s2 : (a0 ++ ({ data := #[32, 9, 32, 9] } : ByteArray)).size ≤ maxLen := by unfold maxLen; rw [size_pad]; omega
        have s3 : (({ data := #[9, 32] } ++ a0) ++ ({ data := #[120] } : ByteArray)).size ≤ maxLen := by unfold maxLen; rw [size_x]; omega
        have s4 : (trimB a0).size ≤ maxLen := Nat.le_trans (t_size a0) w0
        have c1 := ztrim_any (a0 ++ bl) wr s1
        have c2 := ztrim_any (a0 ++ { data := #[32, 9, 32, 9] }) wr s2
        have c3 := ztrim_any (({ data := #[9, 32] } ++ a0) ++ { data := #[120] }) wr s3
        have c4 := ztrim_any (trimB a0) wr s4
        rw [t1] at c1
        rw [t2] at c2
        rw [t3] at c3
        rw [t4] at c4
        clear t1 t2 t3 t4 hb hf hbb hbl s1 s2 s3 s4
        go_wp2_with fail
        refine c1.mono ?_
        rintro e w' ⟨rfl, hw⟩
        subst w'
        go_wp2_with fail
        refine c2.mono ?_
        rintro e w' ⟨rfl, hw⟩
        subst w'
        by_cases hz : a0.size = 0
        · have e := isEmpty_of a0 hz
          go_wp2_with fail
          refine c3.mono ?_
          rintro e w' ⟨rfl, hw⟩
          subst w'
          go_wp2_with fail
          refine c4.mono ?_
          rintro e w' ⟨rfl, hw⟩
          subst w'
          go_wp2
          go_ret
          exact ⟨rfl, hbel⟩
        · have e := isEmpty_not a0 hz
          have hz' : 0 < a0.size := by omega
          cases hbk : blank a0[a0.size - 1] with
          | true =>
            have hI : blankI (a0[a0.size - 1].toNat : Int) = true := by rw [← blank_iff]; exact hbk
            have c5 := isBlank_yes _ wr hI
            clear hI hbk
            go_wp2_with fail
            refine c5.mono ?_
            rintro e w' ⟨rfl, hw⟩
            subst w'
            go_wp2_with fail
            refine c3.mono ?_
            rintro e w' ⟨rfl, hw⟩
            subst w'
            go_wp2_with fail
            refine c4.mono ?_
            rintro e w' ⟨rfl, hw⟩
            subst w'
            go_wp2
            go_ret
            exact ⟨rfl, hbel⟩
          | false =>
            have hI : blankI (a0[a0.size - 1].toNat : Int) = false := by rw [← blank_iff]; exact hbk
            have c5 := isBlank_no _ wr hI
            have hts : ((trimB a0).toList == a0.toList) = true := by rw [trimB_full a0 hz' hbk]; simp
            clear hI hbk
            go_wp2_with fail
            refine c5.mono ?_
            rintro e w' ⟨rfl, hw⟩
            subst w'
            go_wp2_with fail
            refine c3.mono ?_
            rintro e w' ⟨rfl, hw⟩
            subst w'
            go_wp2_with fail
            refine c4.mono ?_
            rintro e w' ⟨rfl, hw⟩
            subst w'
            go_wp2
            go_ret
            exact ⟨rfl, hbel⟩
  · go_enter Try.func4, Try.ntmps4
    go_wp2
    all_goals (go_ret; exact ⟨rfl, Below.refl _ _⟩)

/-! ### THE ROW's STEP: WRITTEN OUT: LEAVE IT -/
set_option maxRecDepth 100000 in
theorem lifted (os : Os) (started : os.Started) (H : Type) (enc : TypeId × Value → H) :
    ReturnsInHanded {} Try.checked os 4 .any (Rows.fnTrimRightBlanksAppendSpec.pre6 enc Try.prog Try.f4 Rows.fnTrimRightBlanksAppendRow.domain false) (Rows.fnTrimRightBlanksAppendSpec.post enc Try.prog Try.f4 false true false false) := by
  refine returnsInHanded_of_change (C := Try.checked) own started (by kernel_rfl) Try.func4
    (ChangeSpec.witness6 (enc := enc) (C := Try.checked) false ⟨#[], #[.string ByteArray.empty, .string ByteArray.empty], []⟩ 8 (by kernel_rfl) (by kernel_rfl) (by kernel_rfl) (by kernel_rfl)) ?_
  intro W base args ds gs before hval0 hW hcnd _
  have hval : ∀ (j : Nat) t v, Try.f4.params[j]? = some t → args[j]? = some v → Value.okWide Try.prog W .any base t v := hval0
  have hW' := hW
  obtain ⟨p, q, hA0, hV, rfl, hfz, hnd⟩ := hW
  have hA : DataW.TrodAll enc Try.prog W 0 (fun _ => true) true Try.f4.params.toList args.toList ds p := hA0
  rw [Try.params4] at hA hval
  obtain ⟨v0, vs0, d0, ds0, p0, q0, hargs, rfl, rfl, h0, r0⟩ := trodAll_cons hA
  obtain ⟨v1, vs1, d1, ds1, p1, q1, rfl, rfl, rfl, h1, r1⟩ := trodAll_cons r0
  obtain ⟨rfl, rfl, rfl⟩ := trodAll_nil r1
  obtain rfl : args = #[v0, v1] := by cases args; simp_all
  obtain ⟨rfl, rfl⟩ := trodVars_none hV
  obtain ⟨a0, rfl, rfl, rfl, w0⟩ := open_string Try.underlying9 (hval 0 9 v0 rfl rfl) h0
  obtain ⟨a1, rfl, rfl, rfl, w1⟩ := open_string Try.underlying9 (hval 1 9 v1 rfl rfl) h1
  clear hA0 hval0
  simp only [List.append_nil] at hW'
  refine (walk a0 a1 w0 w1 W).mono fun e W' ⟨he, bel⟩ => ?_
  subst he
  exact ⟨_, rfl, _, _, _, [], _, [], hW', trodAll_mk1 (shut_bool Try.underlying4 _), (trodAll_cons_mk (shut_string Try.underlying9 w0) (trodAll_cons_mk (shut_string Try.underlying9 w1) trodAll_mk0)), rfl, bel.frame _, fun h => by cases h⟩

theorem over : Rows.fnTrimRightBlanksAppendRow.holds Try.pinned (OpenSpec.ofChange Rows.fnTrimRightBlanksAppendSpec) :=
  OpenClaim.holds_of_wide 4 Try.f4 rfl rfl rfl rfl rfl rfl rfl ⟨rfl, rfl, rfl, rfl, rfl⟩ rfl rfl rfl rfl rfl (by kernel_rfl) Try.func4 (by kernel_rfl)
    (of_decide_eq_true (by kernel_rfl)) (by unfold Func.isWrapper; first | (rw [if_pos (by decide +kernel)]; kernel_rfl) | (rw [if_neg (by decide +kernel)]; exact ⟨rfl, rfl⟩))
    (fun os started H enc _ => lifted os started H enc)

/-- THE STATEMENT -/
theorem proved : Rows.FnTrimRightBlanksAppendSaid :=
  over
#print axioms proved
end Go.Proofs.Qxb6604410a.fnTrimRightBlanksAppend
