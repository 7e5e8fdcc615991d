import Derived.Test.Qxb6604418aDecodes
namespace Go.Proofs.Qxb6604418a
open Go.RowKit

/-! ### the plain law: the encoding can be told apart -/
theorem uv_inj : ∀ (x y : Nat) (r r' : List UInt8), Lib.uvarint x ++ r = Lib.uvarint y ++ r' → x = y ∧ r = r' := by
  intro x
  induction x using Nat.strongRecOn with
  | _ x ih =>
    intro y r r' h
    by_cases hx : x < 128
    · rw [Lib.uvarint_small hx] at h
      by_cases hy : y < 128
      · rw [Lib.uvarint_small hy] at h
        simp only [List.cons_append, List.nil_append, List.cons.injEq] at h
        have := congrArg UInt8.toNat h.1
        rw [u8nat (by omega), u8nat (by omega)] at this
        exact ⟨this, h.2⟩
      · rw [Lib.uvarint_big (by omega)] at h
        simp only [List.cons_append, List.nil_append, List.cons.injEq] at h
        have := congrArg UInt8.toNat h.1
        rw [u8nat (by omega), u8nat (by omega)] at this
        omega
    · rw [Lib.uvarint_big (by omega)] at h
      by_cases hy : y < 128
      · rw [Lib.uvarint_small hy] at h
        simp only [List.cons_append, List.nil_append, List.cons.injEq] at h
        have := congrArg UInt8.toNat h.1
        rw [u8nat (by omega), u8nat (by omega)] at this
        omega
      · rw [Lib.uvarint_big (x := y) (by omega)] at h
        simp only [List.cons_append, List.cons.injEq] at h
        have h1 := congrArg UInt8.toNat h.1
        rw [u8nat (by omega), u8nat (by omega)] at h1
        obtain ⟨h2, h3⟩ := ih (x / 128) (by omega) (y / 128) r r' h.2
        exact ⟨by omega, h3⟩

theorem encS_inj (s t : ByteArray) (r r' : List UInt8) (h : encS s ++ r = encS t ++ r') : s = t ∧ r = r' := by
  unfold encS at h
  rw [List.append_assoc, List.append_assoc] at h
  obtain ⟨h1, h2⟩ := uv_inj _ _ _ _ h
  have hl : s.data.toList.length = t.data.toList.length := by
    rw [Array.length_toList, Array.length_toList]; exact h1
  obtain ⟨h3, h4⟩ := List.append_inj h2 hl
  exact ⟨ByteArray.ext (Array.ext' h3), h4⟩

theorem encTo_congr (s t : Nat → ByteArray) (k : Nat) (h : ∀ i, i < k → s i = t i) : encTo s k = encTo t k := by
  induction k with
  | zero => rfl
  | succ k ih => rw [encTo_succ, encTo_succ, ih (fun i hi => h i (by omega)), h k (by omega)]

theorem encTo_inj (s t : Nat → ByteArray) (n : Nat) (h : encTo s n = encTo t n) : ∀ k, k ≤ n → ∀ i, i < k → s i = t i := by
  intro k
  induction k with
  | zero => intro _ i hi; omega
  | succ k ih =>
    intro hk i hi
    have hp := ih (by omega)
    by_cases e : i = k
    · subst e
      obtain ⟨r, hr⟩ := encTo_more s (i + 1) (n - (i + 1))
      obtain ⟨r', hr'⟩ := encTo_more t (i + 1) (n - (i + 1))
      rw [show i + 1 + (n - (i + 1)) = n by omega, encTo_succ] at hr hr'
      rw [hr, hr', encTo_congr s t i hp, List.append_assoc, List.append_assoc] at h
      exact (encS_inj _ _ _ _ (List.append_cancel_left h)).1
    · exact hp i (by omega)

def SameList (s : Nat → ByteArray) (n : Nat) (t : Nat → ByteArray) (m : Nat) : Prop := n = m ∧ ∀ i, i < n → s i = t i

theorem enc_iff (zb : List UInt8) (s t : Nat → ByteArray) (n m : Nat) : zb ++ encL s n = zb ++ encL t m ↔ SameList s n t m := by
  constructor
  · intro h
    have h1 := List.append_cancel_left h
    unfold encL at h1
    obtain ⟨h2, h3⟩ := uv_inj _ _ _ _ h1
    subst h2
    exact ⟨rfl, encTo_inj s t n h3 n (Nat.le_refl _)⟩
  · rintro ⟨rfl, h⟩
    unfold encL
    rw [encTo_congr s t n h]

/-! ### zzBytesEqual, zzListsEqual -/
theorem drewN_some (w : World) (q r : Nat) : ∃ n, (w.drewN q).drewN r = w.drewN n := ⟨q + r, by simp⟩
def EqPost (p : Prop) (w : World) (e : Ending) (w' : World) : Prop := ∃ r : Bool, e = .returned (.bool r) ∧ (r = true ↔ p) ∧ ∃ q, w' = w.drewN q

set_option maxHeartbeats 1000000 in
theorem bytesEqual_any (g1 n1 c1 g2 n2 c2 : Nat) (l1 l2 : List UInt8) (w : World) (h1 : BytesAt w (some ⟨g1, 0, none⟩) n1 c1 l1) (h2 : BytesAt w (some ⟨g2, 0, none⟩) n2 c2 l2) (hn : n1 ≤ 4398046511104) :
    Calls Try.prog 19 #[.slice (some ⟨g1, 0, none⟩) n1 c1, .slice (some ⟨g2, 0, none⟩) n2 c2] w (EqPost (l1 = l2) w) := by
  have e1 := h1.1
  have e2 := h2.1
  by_cases hne : n1 = n2
  · subst hne
    have E1 : Hid _ := e1
    have E2 : Hid _ := e2
    clear e1 e2
    go_enter Try.func19, Try.ntmps19
    go_wp2
    go_loopw [5] (fun z wr => ∃ k : Nat, k ≤ n1 ∧ z = .int .i64 k ∧ Hid (∀ j, j < k → l1[j]? = l2[j]?) ∧ ∃ q, wr = w.drewN q) (fun z _ => n1 - (intOf z).toNat)
    case atStart => exact ⟨0, Nat.zero_le _, rfl, fun j hj => absurd hj (Nat.not_lt_zero _), 0, rfl⟩
    case round =>
      obtain ⟨k, hk, rfl, HE, q, rfl⟩ := hrel
      by_cases hlt : k < n1
      · have k1 : k < l1.length := by rw [E1.out]; exact hlt
        have k2 : k < l2.length := by rw [E2.out]; exact hlt
        have d1 := h1.cell k1
        have d2 := h2.cell k2
        rw [Nat.zero_add] at d1 d2
        have hkz : (k : Int) < (n1 : Int) := by omega
        obtain ⟨x, hx⟩ : ∃ x, x = l1[k] := ⟨_, rfl⟩
        obtain ⟨y, hy⟩ : ∃ y, y = l2[k] := ⟨_, rfl⟩
        have HX : Hid (l1[k]? = some x) := by show _ = _; rw [hx]; exact List.getElem?_eq_getElem k1
        have HY : Hid (l2[k]? = some y) := by show _ = _; rw [hy]; exact List.getElem?_eq_getElem k2
        rw [← hx] at d1
        rw [← hy] at d2
        clear hx hy k1 k2
        by_cases hxy : x = y
        · subst hxy
          go_wp2
          go_quiet (fail)
          go_wp2
          go_roundw
          case rel =>
            refine ⟨k + 1, by omega, by go_num, fun j hj => ?_, _, rfl⟩
            by_cases e : j = k
            · subst e; rw [HX.out, HY.out]
            · exact HE.out j (by omega)
          case measure => simp [intOf]; omega
        · have hxn : ((x.toNat : Int) != (y.toNat : Int)) = true := by
            rw [bne_iff_ne]
            intro h
            exact hxy (UInt8.toNat_inj.1 (by omega))
          have HN : Hid _ := hxy
          clear hxy
          go_wp2
          go_quiet (fail)
          go_wp2
          go_ret
          refine ⟨false, rfl, ?_, drewN_some _ _ _⟩
          constructor
          · intro h; cases h
          · intro h
            subst h
            have := HX.out
            rw [HY.out] at this
            cases this
            exact absurd rfl HN.out
      · go_wp2
        go_ret
        refine ⟨true, rfl, ?_, _, rfl⟩
        constructor
        · intro _
          apply List.ext_getElem?
          intro j
          by_cases hj : j < k
          · exact HE.out j hj
          · rw [List.getElem?_eq_none (by rw [E1.out]; omega), List.getElem?_eq_none (by rw [E2.out]; omega)]
        · intro _; rfl
  · have hnz : ((n1 : Int) != (n2 : Int)) = true := by rw [bne_iff_ne]; omega
    have HN : Hid (l1 ≠ l2) := by
      intro h
      rw [← h] at e2
      omega
    clear hne e1 e2
    go_enter Try.func19, Try.ntmps19
    go_wp2
    go_ret
    refine ⟨false, rfl, ?_, 0, rfl⟩
    constructor
    · intro h; cases h
    · intro h; exact absurd h HN.out

theorem str_eq {s t : ByteArray} : (s.toList == t.toList) = true ↔ s = t := by
  rw [beq_iff_eq, Lib.toList_data, Lib.toList_data]
  constructor
  · intro h; exact ByteArray.ext (Array.ext' h)
  · intro h; rw [h]

set_option maxHeartbeats 1000000 in
theorem listsEqual_any (a1 : Option Addr) (n1 c1 : Nat) (a2 : Option Addr) (n2 c2 B1 B2 : Nat) (s t : Nat → ByteArray) (w : World) (h1 : Strs w B1 a1 n1 s) (h2 : Strs w B2 a2 n2 t) (hn : n1 ≤ 1048576) :
    Calls Try.prog 20 #[.slice a1 n1 c1, .slice a2 n2 c2] w (EqPost (SameList s n1 t n2) w) := by
  by_cases hne : n1 = n2
  · subst hne
    go_enter Try.func20, Try.ntmps20
    go_wp2
    go_loopw [5] (fun z wr => ∃ k : Nat, k ≤ n1 ∧ z = .int .i64 k ∧ Hid (∀ j, j < k → s j = t j) ∧ ∃ q, wr = w.drewN q) (fun z _ => n1 - (intOf z).toNat)
    case atStart => exact ⟨0, Nat.zero_le _, rfl, fun j hj => absurd hj (Nat.not_lt_zero _), 0, rfl⟩
    case round =>
      obtain ⟨k, hk, rfl, HE, q, rfl⟩ := hrel
      by_cases hlt : k < n1
      · rcases h1 with h | ⟨b1, o1, rfl, hb1, hc1⟩
        · omega
        · rcases h2 with h | ⟨b2, o2, rfl, hb2, hc2⟩
          · omega
          · have d1 := hc1 k hlt
            have d2 := hc2 k hlt
            have hkz : (k : Int) < (n1 : Int) := by omega
            cases hq : ((s k).toList == (t k).toList) with
            | true =>
              have HS : Hid _ := str_eq.1 hq
              go_wp2
              go_quiet (fail)
              go_wp2
              go_roundw
              case rel =>
                refine ⟨k + 1, by omega, by go_num, fun j hj => ?_, _, rfl⟩
                by_cases e : j = k
                · subst e; exact HS.out
                · exact HE.out j (by omega)
              case measure => simp [intOf]; omega
            | false =>
              have HS : Hid (s k ≠ t k) := by
                intro h
                rw [str_eq.2 h] at hq
                cases hq
              go_wp2
              go_quiet (fail)
              go_wp2
              go_ret
              refine ⟨false, rfl, ?_, drewN_some _ _ _⟩
              constructor
              · intro h; cases h
              · intro h; exact absurd (h.2 k hlt) HS.out
      · go_wp2
        go_ret
        refine ⟨true, rfl, ?_, _, rfl⟩
        constructor
        · intro _; exact ⟨rfl, fun i hi => HE.out i (by omega)⟩
        · intro _; rfl
  · have hnz : ((n1 : Int) != (n2 : Int)) = true := by rw [bne_iff_ne]; omega
    have HN : Hid _ := hne
    clear hne
    go_enter Try.func20, Try.ntmps20
    go_wp2
    go_ret
    refine ⟨false, rfl, ?_, 0, rfl⟩
    constructor
    · intro h; cases h
    · intro h; exact absurd h.1 HN.out

/-! ### zzUvarintLen, zzEncodedSize -/
theorem ret_int {k : IntKind} {a b : Int} (h : a = b) : Ending.returned (.int k a) = .returned (.int k b) := by rw [h]

set_option maxRecDepth 100000 in
set_option maxHeartbeats 1000000 in
theorem ulen_any (x : Nat) (w : World) (hx : x ≤ 1048576) :
    Calls Try.prog 24 #[.int .u64 x] w fun e w' => e = .returned (.int .i64 ((Lib.uvarint x).length : Nat)) ∧ w' = w := by
  have hlen := Lib.uvarint_length 2 x (by omega)
  go_enter Try.func24, Try.ntmps24
  go_wp2
  go_loop [0, 3] (fun vx vk => ∃ y m : Nat, vx = .int .u64 y ∧ y ≤ x ∧ vk = .int .i64 m ∧ m ≤ 3 ∧ Hid (m + (Lib.uvarint y).length = (Lib.uvarint x).length + 1)) (fun vx _ => (intOf vx).toNat)
  case atStart => exact ⟨x, 1, rfl, Nat.le_refl _, rfl, by omega, by show _ = _; omega⟩
  case round =>
    obtain ⟨y, m, rfl, hy, rfl, hm, HM⟩ := hrel
    have hyp := Lib.uvarint_pos y
    by_cases h128 : 128 ≤ y
    · have HB : Hid (m + 1 + (Lib.uvarint (y / 128)).length = (Lib.uvarint x).length + 1) := by
        show _ = _
        have h1 := HM.out
        rw [Lib.uvarint_big h128, List.length_cons] at h1
        omega
      have hm2 : m + 1 ≤ 3 := by
        have h1 := HB.out
        have := Lib.uvarint_pos (y / 128)
        omega
      go_wp2
      go_round
      case rel => exact ⟨y / 128, m + 1, by go_num, by omega, by go_num, hm2, HB⟩
      case measure => simp [intOf]; omega
    · have HB : Hid (m = (Lib.uvarint x).length) := by
        show _ = _
        have h1 := HM.out
        rw [Lib.uvarint_small (by omega)] at h1
        simp at h1
        omega
      go_wp2
      go_ret
      exact ⟨ret_int (by rw [HB.out]), rfl⟩

set_option maxRecDepth 100000 in
set_option maxHeartbeats 1000000 in
theorem encSize_any (a : Option Addr) (n c B : Nat) (ss : Nat → ByteArray) (w : World) (h : Strs w B a n ss) (hn : n ≤ 1048576) (hd : ∀ i, i < n → (ss i).size ≤ 1048576) :
    Calls Try.prog 21 #[.slice a n c] w fun e w' => e = .returned (.int .i64 ((encL ss n).length : Nat)) ∧ ∃ q, w' = w.drewN q := by
  have hul := Lib.uvarint_length 2 n (by omega)
  have hel := encTo_length ss n hd
  go_enter Try.func21, Try.ntmps21
  go_wp2_with fail
  refine (ulen_any n w hn).mono ?_
  rintro e w' ⟨rfl, hw⟩
  subst w'
  go_wp2
  go_loopw [3, 4] (fun z i wr => ∃ k : Nat, k ≤ n ∧ i = .int .i64 k ∧ (∃ p : Nat, z = .int .i64 p ∧ p ≤ 4398046511104 ∧ Hid (p = (Lib.uvarint n).length + (encTo ss k).length)) ∧ ∃ q, wr = w.drewN q) (fun _ i _ => n - (intOf i).toNat)
  case atStart => exact ⟨0, Nat.zero_le _, rfl, ⟨_, rfl, by omega, by show _ = _; simp [encTo]⟩, 0, rfl⟩
  case round =>
    obtain ⟨k, hk, rfl, ⟨p, rfl, hp, HP⟩, q, hwr⟩ := hrel
    have HQ : Hid _ := hwr
    clear hwr
    by_cases hlt : k < n
    · rcases h with h | ⟨b, off, rfl, hb, hc⟩
      · omega
      · have c0 : wr.cell? ⟨b, off + k, none⟩ = some (.string (ss k)) := by rw [HQ.out]; exact hc k hlt
        have hkd := hd k hlt
        have hkz : (k : Int) < (n : Int) := by omega
        have hek := hel (k + 1) (by omega)
        have hul2 := Lib.uvarint_length 2 (ss k).size (by omega)
        have hsl : (ss k).data.toList.length = (ss k).size := Array.length_toList
        have HE : Hid (p + (Lib.uvarint (ss k).size).length + (ss k).size = (Lib.uvarint n).length + (encTo ss (k + 1)).length) := by
          show _ = _
          have := HP.out
          rw [encTo_succ, encS, List.length_append, List.length_append, hsl]
          omega
        have hpb : p + (Lib.uvarint (ss k).size).length + (ss k).size ≤ 4398046511104 := by have := HE.out; omega
        have hw64 : IntKind.u64.wrap ((ss k).size : Int) = ((ss k).size : Int) := u64_wrap_id _ (by omega) (by omega)
        clear hsl
        go_wp2
        go_quiet ((go_at_call 24; exact Calls.quiet_of_same (ulen_any _ _ hkd)))
        go_wp2
        go_roundw
        case rel => exact ⟨k + 1, by omega, by go_num, ⟨_, by go_num, hpb, HE⟩, by rw [HQ.out]; exact drewN_some _ _ _⟩
        case measure => simp [intOf]; omega
    · have hkn : k = n := by omega
      have HL : Hid (p = (encL ss n).length) := by
        show _ = _
        have := HP.out
        rw [hkn] at this
        rw [encL, List.length_append]
        exact this
      clear hkn
      go_wp2
      go_ret
      exact ⟨ret_int (by rw [HL.out]), _, HQ.out⟩
end Go.Proofs.Qxb6604418a
